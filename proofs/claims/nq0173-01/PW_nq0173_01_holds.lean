import PyProof.Rows.All
import Wide.All
import OpenK.AllK
import Wide.FinOn
import Lean
import PySem.Challenge.RW_nq0173_01
open PySem PySem.W PyProof.Rows
set_option Elab.async false
set_option maxRecDepth 100000
set_option linter.all false
set_option maxHeartbeats 8000000
namespace Mine
/-- the text's last def alone: what the walk behind the head asks of the text -/
def q0 : Program := view PySem.Challenge.pw_nq0173_01 [31]
def loose0 : List Str := [Str.ofString "_wall", Str.ofString "sep", Str.ofString "_kind", Str.ofString "_fspath", Str.ofString "splitext", Str.ofString "_c_path", Str.ofString "_splitroot", Str.ofString "basename", Str.ofString "_normpath", Str.ofString "normpath", Str.ofString "_Ignore", Str.ofString "_modname", Str.ofString "heappush", Str.ofString "heappop", Str.ofString "heapreplace", Str.ofString "heapify", Str.ofString "_heapreplace_max", Str.ofString "_heapify_max", Str.ofString "_siftdown", Str.ofString "_siftup", Str.ofString "_siftdown_max", Str.ofString "_siftup_max", Str.ofString "nsmallest", Str.ofString "nlargest", Str.ofString "_law_path", Str.ofString "_law_module", Str.ofString "_law_few"]
theorem said0 : PySem.Challenge.rw_nq0173_01.wellSaid = true := by kernel_rfl
local macro_rules | `(tactic| o_law) => `(tactic| refine holds_law said0 fun said => ?_)
local macro_rules | `(tactic| o_head $H) => `(tactic| refine holds_open (q := q0) (loose := loose0) (Xt := fun s => xlAt q0 [] s && recOk (RowW.records (OpenRow.toRowW PySem.Challenge.rw_nq0173_01.row)) s) (XP := XL q0 []) (Yf := Hook.obs $H) (Ya := Hook.val $H) (YP := Hook.says $H) (N := 2338) (fun w => by kernel_rfl) (Hook.of $H) (Hook.keeps $H) (fun s e => xl_of s (Bool.and_eq_true_iff.mp e).1) XL.keeps (by rfl) (by rfl) (by rfl) (fun s e => recFacts_of (Bool.and_eq_true_iff.mp e).2) (by rfl) (by first | assumption | decide +kernel) (by decide +kernel) ⟨rfl, rfl, rfl, rfl, rfl, by decide +kernel⟩ ?hw ?hc)
open_top hd for PySem.Challenge.rw_nq0173_01
set_option genSizeOfSpec false
set_option genInjectivity false

-- text: Base
noncomputable abbrev Led := List (Addr × Obj)
/-- the continuation by name: a term that bears it whole at each depth is large -/
theorem gen_QE {α : Type} {M : Model} {A : Around} {t : Sem α} {Q : α → Shared → Prop} {E : Value → Shared → Prop} {s : Shared} (h : ∀ Q' E', Q' = Q → E' = E → wpAny M A t Q' E' s) : wpAny M A t Q E s := h Q E rfl rfl
theorem gen_body {α β : Type} {M : Model} {A : Around} {t : Sem α} {u : α → Sem β} {Q : β → Shared → Prop} {E : Value → Shared → Prop} {s : Shared} (h : ∀ R, R = Q → wpAny M A t (fun x s₂ => wpAny M A (u x) R E s₂) E s) : wpAny M A t (fun x s₂ => wpAny M A (u x) Q E s₂) E s := h Q rfl
theorem gen_while {α : Type} {M : Model} {A : Around} {t : Sem Bool} {u : Sem α} {Q : α → Shared → Prop} {Q2 : Shared → Prop} {E : Value → Shared → Prop} {s : Shared} (h : ∀ R R2, R = Q → R2 = Q2 → wpAny M A t (fun b s₂ => if b = true then wpAny M A u R E s₂ else R2 s₂) E s) : wpAny M A t (fun b s₂ => if b = true then wpAny M A u Q E s₂ else Q2 s₂) E s := h Q Q2 rfl rfl
theorem gen_P {G : Prop} (h : ∀ R : Prop, R = G → R) : G := h G rfl
theorem of_P {R G : Prop} (h : R = G) (g : G) : R := h ▸ g
theorem of_Q1 {Q' Q : Shared → Prop} {s : Shared} (h : Q' = Q) (g : Q s) : Q' s := h ▸ g
theorem elim2 {α β : Type} {P : α × β → Prop} (h : ∀ a b, P (a, b)) : ∀ x, P x := fun ⟨a, b⟩ => h a b
theorem elim3 {α β γ : Type} {P : α × β × γ → Prop} (h : ∀ a b c, P (a, b, c)) : ∀ x, P x := fun ⟨a, b, c⟩ => h a b c
theorem elim5 {α β γ δ ε : Type} {P : α × β × γ × δ × ε → Prop} (h : ∀ a b c d e, P (a, b, c, d, e)) : ∀ x, P x := fun ⟨a, b, c, d, e⟩ => h a b c d e
theorem same_ite {c : Prop} [Decidable c] {α : Type} {a b d : α} (hc : ¬ c) (h : b = d) : (if c then a else b) = d := by rw [if_neg hc]; exact h
theorem same_kst {c : Bool} {α : Type} {a b : α} (h : c = false) : (if c = true then a else b) = b := by rw [h]; rfl
theorem ne_c {l : List Str} {z x : Str} (hx : l.contains x = true) (hz : l.contains z = false) : z ≠ x := fun e => by rw [e, hx] at hz; cases hz
theorem room1 {u i d c : Nat} (h : u + d < c) (k : Nat.ble i d = true) : u + i < c := Nat.lt_of_le_of_lt (Nat.add_le_add_left (Nat.le_of_ble_eq_true k) u) h
theorem room2 {u i j d c : Nat} (h : u + d < c) (k : Nat.ble (i + j) d = true) : u + i + j < c := by rw [Nat.add_assoc]; exact room1 h k
theorem room3 {u i j l d c : Nat} (h : u + d < c) (k : Nat.ble (i + j + l) d = true) : u + i + j + l < c := by rw [Nat.add_assoc u]; exact room2 h k
theorem room4 {u i j l n d c : Nat} (h : u + d < c) (k : Nat.ble (i + j + l + n) d = true) : u + i + j + l + n < c := by rw [Nat.add_assoc u]; exact room3 h k
theorem room5 {u i j l n o d c : Nat} (h : u + d < c) (k : Nat.ble (i + j + l + n + o) d = true) : u + i + j + l + n + o < c := by rw [Nat.add_assoc u]; exact room4 h k
theorem meas_succ {n i : Nat} (h : i < n) : n + 1 - (i + 1) < n + 1 - i := Nat.sub_lt_sub_left (Nat.lt_succ_of_lt h) (Nat.lt_succ_self i)
theorem sub_step {n i k : Nat} (h : n - i = k + 1) : n - (i + 1) = k := by omega
theorem sub_pos {n i k : Nat} (h : n - i = k + 1) : i < n := by omega
theorem size_ok {n : Nat} (h : n ≤ 1000000) : n ≤ sizeLine := by unfold sizeLine; omega
theorem fit_ok {n : Nat} (h : n ≤ 1000000) : n < 2 ^ 62 := by omega
theorem of_Q {α : Type} {Q' Q : α → Shared → Prop} {x : α} {s : Shared} (h : Q' = Q) (g : Q x s) : Q' x s := h ▸ g
theorem passes_of {M : Model} {A : Around} {env : Env} {E' E : Value → Shared → Prop} (h : E' = E) (p : PassesOwn M A env E) : PassesOwn M A env E' := h ▸ p
noncomputable abbrev Con (w : World) (mean : ExcName → Option Value) (mg mb : Str → Option Value) (f : Addr) (dn un' : Nat) (news : Led) (args : List Value) (Ret : Value → Led → Prop) : Prop :=
  ∀ (dp un : Nat) (gd : Option (List Code)) (cn : Str) (cs : Scope) (a : Addr) (ccd : Value) (cl : List (Str × Addr)) (outer : List Env) (A₀ : Around) (base h₀ : Heap) (L : Addr) (m : Str → Option Value) (s : Shared) (Q E : Value → Shared → Prop),
    Below A₀ base outer h₀ → Fr h₀ L s.heap m → (hd.heap_1 w.params).In h₀ → News h₀ L s.heap news → Top q0 (looseW q0 loose0) mean mg mb h₀ → cs.kind = .function →
    dp + dn < recursionLimit → un + un' < cLine →
    (∀ r news' h' tk', Fr h₀ L h' m → News h₀ L h' news' → Ret r news' → Q r { s with heap := h', toks := tk' }) →
    wpAny (model PySem.Challenge.rw_nq0173_01.row.prog w) (ktrTop dp un gd cn cs L a ccd cl outer) (call (.ref f) args) Q E s

theorem Con.use {w : World} {mean : ExcName → Option Value} {mg mb : Str → Option Value} {f : Addr} {dn un' : Nat} {news : Led} {args : List Value} {Ret : Value → Led → Prop}
    {dp un : Nat} {gd : Option (List Code)} {cn : Str} {cs : Scope} {a : Addr} {ccd : Value} {cl : List (Str × Addr)} {outer : List Env} {A₀ : Around} {base h₀ : Heap} {L : Addr} {m : Str → Option Value} {s : Shared} {Q E : Value → Shared → Prop}
    (B : Below A₀ base outer h₀) (F : Fr h₀ L s.heap m) (X : (hd.heap_1 w.params).In h₀) (N : News h₀ L s.heap news) (T : Top q0 (looseW q0 loose0) mean mg mb h₀) (hk : cs.kind = .function)
    (C : Con w mean mg mb f dn un' news args Ret) (hd : dp + dn < recursionLimit) (hu : un + un' < cLine)
    (ret : ∀ r news' h' tk', Fr h₀ L h' m → News h₀ L h' news' → Ret r news' → Q r { s with heap := h', toks := tk' }) :
    wpAny (model PySem.Challenge.rw_nq0173_01.row.prog w) (ktrTop dp un gd cn cs L a ccd cl outer) (call (.ref f) args) Q E s := C _ _ _ _ _ _ _ _ _ _ _ _ _ _ _ _ _ B F X N T hk hd hu ret

/-- as Con.use, for an answer that is one value and one ledger -/
theorem Con.use2 {w : World} {mean : ExcName → Option Value} {mg mb : Str → Option Value} {f : Addr} {dn un' : Nat} {news Y : Led} {args : List Value} {V : Value}
    {dp un : Nat} {gd : Option (List Code)} {cn : Str} {cs : Scope} {a : Addr} {ccd : Value} {cl : List (Str × Addr)} {outer : List Env} {A₀ : Around} {base h₀ : Heap} {L : Addr} {m : Str → Option Value} {s : Shared} {Q E : Value → Shared → Prop}
    (B : Below A₀ base outer h₀) (F : Fr h₀ L s.heap m) (X : (hd.heap_1 w.params).In h₀) (N : News h₀ L s.heap news) (T : Top q0 (looseW q0 loose0) mean mg mb h₀) (hk : cs.kind = .function)
    (C : Con w mean mg mb f dn un' news args (fun r nw => r = V ∧ nw = Y)) (hd : dp + dn < recursionLimit) (hu : un + un' < cLine)
    (ret : ∀ h' tk', Fr h₀ L h' m → News h₀ L h' Y → Q V { s with heap := h', toks := tk' }) :
    wpAny (model PySem.Challenge.rw_nq0173_01.row.prog w) (ktrTop dp un gd cn cs L a ccd cl outer) (call (.ref f) args) Q E s := C.use B F X N T hk hd hu fun _ _ h' tk' F' N' e => by rw [e.1]; exact ret h' tk' F' (e.2 ▸ N')
theorem Con.useT {w : World} {mean : ExcName → Option Value} {mg mb : Str → Option Value} {f : Addr} {dn un' : Nat} {news Y : Led} {args : List Value} {V : Tok → Value}
    {dp un : Nat} {gd : Option (List Code)} {cn : Str} {cs : Scope} {a : Addr} {ccd : Value} {cl : List (Str × Addr)} {outer : List Env} {A₀ : Around} {base h₀ : Heap} {L : Addr} {m : Str → Option Value} {s : Shared} {Q E : Value → Shared → Prop}
    (B : Below A₀ base outer h₀) (F : Fr h₀ L s.heap m) (X : (hd.heap_1 w.params).In h₀) (N : News h₀ L s.heap news) (T : Top q0 (looseW q0 loose0) mean mg mb h₀) (hk : cs.kind = .function)
    (C : Con w mean mg mb f dn un' news args (fun r nw => (∃ t, r = V t) ∧ nw = Y)) (hd : dp + dn < recursionLimit) (hu : un + un' < cLine)
    (ret : ∀ t h' tk', Fr h₀ L h' m → News h₀ L h' Y → Q (V t) { s with heap := h', toks := tk' }) :
    wpAny (model PySem.Challenge.rw_nq0173_01.row.prog w) (ktrTop dp un gd cn cs L a ccd cl outer) (call (.ref f) args) Q E s := C.use B F X N T hk hd hu fun _ _ h' tk' F' N' e => by
  obtain ⟨t, ht⟩ := e.1
  rw [ht]; exact ret t h' tk' F' (e.2 ▸ N')
/-- the names' values by a variable: a nest of ifs is large at each depth -/
theorem gen_m {G : Prop} {h₀ h : Heap} {L : Addr} {m : Str → Option Value} (F : Fr h₀ L h m) (k : ∀ m', (∀ z v, m z = v → m' z = v) → Fr h₀ L h m' → G) : G := k m (fun _ _ e => e) F
theorem all1 {α : Type} {P : α → Prop} {a : α} (h1 : P a) : ∀ x ∈ [a], P x := fun _ h => List.mem_singleton.mp h ▸ h1
theorem all2 {α : Type} {P : α → Prop} {a b : α} (h1 : P a) (h2 : P b) : ∀ x ∈ [a, b], P x := List.forall_mem_cons.mpr ⟨h1, all1 h2⟩
theorem all3 {α : Type} {P : α → Prop} {a b c : α} (h1 : P a) (h2 : P b) (h3 : P c) : ∀ x ∈ [a, b, c], P x := List.forall_mem_cons.mpr ⟨h1, all2 h2 h3⟩
theorem all4 {α : Type} {P : α → Prop} {a b c d : α} (h1 : P a) (h2 : P b) (h3 : P c) (h4 : P d) : ∀ x ∈ [a, b, c, d], P x := List.forall_mem_cons.mpr ⟨h1, all3 h2 h3 h4⟩
theorem all5 {α : Type} {P : α → Prop} {a b c d e : α} (h1 : P a) (h2 : P b) (h3 : P c) (h4 : P d) (h5 : P e) : ∀ x ∈ [a, b, c, d, e], P x := List.forall_mem_cons.mpr ⟨h1, all4 h2 h3 h4 h5⟩
theorem all6 {α : Type} {P : α → Prop} {a b c d e f : α} (h1 : P a) (h2 : P b) (h3 : P c) (h4 : P d) (h5 : P e) (h6 : P f) : ∀ x ∈ [a, b, c, d, e, f], P x := List.forall_mem_cons.mpr ⟨h1, all5 h2 h3 h4 h5 h6⟩
theorem all7 {α : Type} {P : α → Prop} {a b c d e f g : α} (h1 : P a) (h2 : P b) (h3 : P c) (h4 : P d) (h5 : P e) (h6 : P f) (h7 : P g) : ∀ x ∈ [a, b, c, d, e, f, g], P x := List.forall_mem_cons.mpr ⟨h1, all6 h2 h3 h4 h5 h6 h7⟩
theorem m1 {α : Type} {a : α} {r : List α} : a ∈ a :: r := .head _
theorem m2 {α : Type} {a b : α} {r : List α} : a ∈ b :: a :: r := .tail _ m1
theorem m3 {α : Type} {a b c : α} {r : List α} : a ∈ b :: c :: a :: r := .tail _ m2
theorem m4 {α : Type} {a b c d : α} {r : List α} : a ∈ b :: c :: d :: a :: r := .tail _ m3
theorem m5 {α : Type} {a b c d e : α} {r : List α} : a ∈ b :: c :: d :: e :: a :: r := .tail _ m4
theorem m6 {α : Type} {a b c d e f : α} {r : List α} : a ∈ b :: c :: d :: e :: f :: a :: r := .tail _ m5
theorem and3 {a b c R : Prop} (h : a ∧ b ∧ c) (k : a → b → c → R) : R := k h.1 h.2.1 h.2.2
theorem and4 {a b c d R : Prop} (h : a ∧ b ∧ c ∧ d) (k : a → b → c → d → R) : R := and3 h.2 (k h.1)
theorem and5 {a b c d e R : Prop} (h : a ∧ b ∧ c ∧ d ∧ e) (k : a → b → c → d → e → R) : R := and4 h.2 (k h.1)
theorem and6 {a b c d e f R : Prop} (h : a ∧ b ∧ c ∧ d ∧ e ∧ f) (k : a → b → c → d → e → f → R) : R := and5 h.2 (k h.1)
theorem and7 {a b c d e f g R : Prop} (h : a ∧ b ∧ c ∧ d ∧ e ∧ f ∧ g) (k : a → b → c → d → e → f → g → R) : R := and6 h.2 (k h.1)
theorem and8 {a b c d e f g i R : Prop} (h : a ∧ b ∧ c ∧ d ∧ e ∧ f ∧ g ∧ i) (k : a → b → c → d → e → f → g → i → R) : R := and7 h.2 (k h.1)
theorem and9 {a b c d e f g i j R : Prop} (h : a ∧ b ∧ c ∧ d ∧ e ∧ f ∧ g ∧ i ∧ j) (k : a → b → c → d → e → f → g → i → j → R) : R := and8 h.2 (k h.1)
theorem ex2 {α β : Sort _} {p : α → β → Prop} {R : Prop} (h : ∃ a b, p a b) (k : ∀ a b, p a b → R) : R := let ⟨a, b, e⟩ := h; k a b e
theorem ex3 {α β γ : Sort _} {p : α → β → γ → Prop} {R : Prop} (h : ∃ a b c, p a b c) (k : ∀ a b c, p a b c → R) : R := let ⟨a, b, c, e⟩ := h; k a b c e
theorem ex4 {α β γ δ : Sort _} {p : α → β → γ → δ → Prop} {R : Prop} (h : ∃ a b c d, p a b c d) (k : ∀ a b c d, p a b c d → R) : R := let ⟨a, b, c, d, e⟩ := h; k a b c d e
/-- two names that stand for what is known -/
theorem two {α β : Sort _} {x : α} {y : β} {P : α → β → Prop} (h : P x y) : ∀ a b, a = x ∧ b = y → P a b := fun _ _ e => e.1 ▸ e.2 ▸ h
theorem two_turn {α β : Type} {n : Nat} {x : Nat → α} {y : Nat → β} {P : ∀ i, i < n → α → β → Prop} (h : ∀ i (hi : i < n), P i hi (x i) (y i)) : ∀ i a b (hi : i < n), a = x i ∧ b = y i → P i hi a b := fun i _ _ hi e => by rw [e.1, e.2]; exact h i hi
theorem two_fin {δ α β γ : Type} {x : α} {y : β} {P : δ → α → β → γ → Prop} (h : ∀ D g, P D x y g) : ∀ D a b g, a = x ∧ b = y → P D a b g := fun D _ _ g e => by rw [e.1, e.2]; exact h D g

section
variable {prog : Program} {w : World} {A : Around} {E : Value → Shared → Prop} {s : Shared} {h₀ : Heap} {L D : Addr} {m : Str → Option Value} {news news' : Led} {n : Nat} {k : Int} {t u : Tok} {κ : Type} {val : κ → Value} {xs : List κ}

theorem item_led {ι : Inhabited κ} {value slice : PySem.Expr} {Q : Value → Shared → Prop} (N : News h₀ L s.heap news) (hm : (D, listOf (xs.map val).toArray n) ∈ news) (h0 : 0 ≤ k) (h1 : k < xs.length) (hfit : xs.length < 2 ^ 62) (h : Q (val xs[k.toNat]!) s)
    (hs : subscripted slice false (.ref D) (.int k u) = operate [.ref D, .int k u] (getItem (.ref D) (.int k u)) := by with_unfolding_all rfl) :
    wpAny (model prog w) A (subscriptTail value slice (.ref D) (.int k u)) Q E s := by
  have hl := PySem.IsL.isList (n := n) (N _ hm).1
  have hk : k.toNat < xs.length := by lia
  refine tail_any hl.typeIs slot_list_getitem.lookup (wpAny_getItem_list hl h0 (by lia) (x := val xs[k.toNat]!) ?_ h) hs
  simp [hk]

theorem item_ledN {ι : Inhabited κ} {j : Nat} {value slice : PySem.Expr} {Q : Value → Shared → Prop} (N : News h₀ L s.heap news) (hm : (D, listOf (xs.map val).toArray n) ∈ news) (h1 : j < xs.length) (hfit : xs.length < 2 ^ 62) (h : Q (val xs[j]!) s)
    (hs : subscripted slice false (.ref D) (.int j u) = operate [.ref D, .int j u] (getItem (.ref D) (.int j u)) := by with_unfolding_all rfl) :
    wpAny (model prog w) A (subscriptTail value slice (.ref D) (.int j u)) Q E s := item_led N hm (by lia) (by lia) hfit h hs

theorem len_led {Q : Value → Shared → Prop} (N : News h₀ L s.heap news) (hm : (D, listOf (xs.map val).toArray n) ∈ news) (hfit : xs.length < 2 ^ 62) (h : ∀ t tk, Q (.int (xs.length : Nat) t) { s with toks := tk }) :
    wpAny (model prog w) A (call (.builtin "len") [.ref D]) Q E s := by
  have hl := PySem.IsL.isList (n := n) (N _ hm).1
  refine PyProof.Rows.len_list hl (by simp; lia) ?_
  have e : ((xs.map val).toArray.size : Int) = (xs.length : Nat) := by simp
  rw [e]; exact h _ _

theorem append_led {Q : Value → Shared → Prop} {y : κ} (F : Fr h₀ L s.heap m) (N : News h₀ L s.heap news) (U : Upd D (listOf (xs.map val).toArray n) (listOf ((xs ++ [y]).map val).toArray (n + 1)) news news') (hz : xs.length ≤ sizeLine)
    (h : ∀ h', Fr h₀ L h' m → News h₀ L h' news' → Q .none { s with heap := h' }) : wpAny (model prog w) A (call (.builtin "list.append") [.ref D, val y]) Q E s := by
  have e : ((xs ++ [y]).map val).toArray = (xs.map val).toArray.push (val y) := by simp
  rw [e] at U
  exact append_K F N U h (by simpa using hz)
theorem pop_led {Q : Value → Shared → Prop} {ys : List κ} {y : κ} (F : Fr h₀ L s.heap m) (N : News h₀ L s.heap news) (e : xs = ys ++ [y]) (U : Upd D (listOf (xs.map val).toArray n) (listOf (ys.map val).toArray (n + 1)) news news') (hz : xs.length ≤ sizeLine)
    (h : ∀ h', Fr h₀ L h' m → News h₀ L h' news' → Q (val y) { s with heap := h' }) : wpAny (model prog w) A (call (.builtin "list.pop") [.ref D]) Q E s := by
  refine kl_pop F N (p := ys.map val) (y := val y) ?_ U (by simpa using hz) h
  rw [e, List.map_append]
  exact kpa_last _ _
theorem truthy_led {Q : Bool → Shared → Prop} (N : News h₀ L s.heap news) (hm : (D, listOf (xs.map val).toArray n) ∈ news) (hz : xs.length ≤ sizeLine) (h : ∀ tk, Q (decide (0 < xs.length)) { s with toks := tk }) : wpAny (model prog w) A (truthy (.ref D)) Q E s := by
  have hl := PySem.IsL.isList (n := n) (N _ hm).1
  refine wpAny_truthy_list hl (by simp; unfold sizeLine at hz; lia) ?_
  have e : (!((xs.map val).toArray.isEmpty)) = decide (0 < xs.length) := by cases xs <;> simp
  rw [e]; exact h _

theorem item_led0 {ι : Inhabited κ} {value slice : PySem.Expr} {Q : Value → Shared → Prop} (N : News h₀ L s.heap news) (hm : (D, listOf (xs.map val).toArray n) ∈ news) (h1 : 0 < xs.length) (hfit : xs.length < 2 ^ 62) (h : Q (val xs[0]!) s)
    (hs : subscripted slice false (.ref D) (.int 0 u) = operate [.ref D, .int 0 u] (getItem (.ref D) (.int 0 u)) := by with_unfolding_all rfl) :
    wpAny (model prog w) A (subscriptTail value slice (.ref D) (.int 0 u)) Q E s := item_led N hm (by lia) (by lia) hfit h hs

theorem set_ledN {Q : Unit → Shared → Prop} {y : κ} {j : Nat} (F : Fr h₀ L s.heap m) (N : News h₀ L s.heap news) (U : Upd D (listOf (xs.map val).toArray n) (listOf ((xs.set j y).map val).toArray n) news news') (h1 : j < xs.length) (hfit : xs.length < 2 ^ 62)
    (h : ∀ h', Fr h₀ L h' m → News h₀ L h' news' → Q () { s with heap := h' }) :
    wpAny (model prog w) A (setItem (.ref D) (.int j t) (val y)) Q E s := by
  obtain ⟨pre, post, rfl, rfl, a, b⟩ := U.split
  have z := N (D, listOf (xs.map val).toArray n) (List.mem_append.mpr (.inr (.head _)))
  refine ki_setAt z.1 (by lia) (by lia) (by simpa using h1) (h _ (F.change (Heap.SameBut.update ..) z.2.1 z.2.2) (ki_turn _ N a b ?_ ?_))
  · show (xs.map val).toArray.setIfInBounds j (val y) = ((xs.set j y).map val).toArray
    apply Array.toList_inj.mp
    simp
  · simp

theorem set_led0 {Q : Unit → Shared → Prop} {y : κ} (F : Fr h₀ L s.heap m) (N : News h₀ L s.heap news) (U : Upd D (listOf (xs.map val).toArray n) (listOf ((xs.set 0 y).map val).toArray n) news news') (h1 : 0 < xs.length) (hfit : xs.length < 2 ^ 62)
    (h : ∀ h', Fr h₀ L h' m → News h₀ L h' news' → Q () { s with heap := h' }) :
    wpAny (model prog w) A (setItem (.ref D) (.int 0 t) (val y)) Q E s := set_ledN (j := 0) F N U h1 hfit h
theorem set_led {Q : Unit → Shared → Prop} {y : κ} (F : Fr h₀ L s.heap m) (N : News h₀ L s.heap news) (U : Upd D (listOf (xs.map val).toArray n) (listOf ((xs.set k.toNat y).map val).toArray n) news news') (h0 : 0 ≤ k) (h1 : k < xs.length) (hfit : xs.length < 2 ^ 62)
    (h : ∀ h', Fr h₀ L h' m → News h₀ L h' news' → Q () { s with heap := h' }) :
    wpAny (model prog w) A (setItem (.ref D) (.int k t) (val y)) Q E s := by
  obtain ⟨pre, post, rfl, rfl, a, b⟩ := U.split
  have z := N (D, listOf (xs.map val).toArray n) (List.mem_append.mpr (.inr (.head _)))
  refine ki_setAt z.1 h0 (by lia) (by simpa using h1) (h _ (F.change (Heap.SameBut.update ..) z.2.1 z.2.2) (ki_turn _ N a b ?_ ?_))
  · show (xs.map val).toArray.setIfInBounds k.toNat (val y) = ((xs.set k.toNat y).map val).toArray
    apply Array.toList_inj.mp
    simp
  · simp
end

theorem shr_one {prog : Program} {w : World} {A : Around} {E : Value → Shared → Prop} {s : Shared} {q : Nat} {t u : Tok} {Q : Value → Shared → Prop} (hq : 0 < q) (h : Q (.int (((q - 1) / 2 : Nat) : Int) s.toks) { s with toks := s.toks + 1 }) :
    wpAny (model prog w) A (binaryOp .RShift (.int ((q : Int) - 1) t) (.int 1 u)) Q E s := by
  refine rshift_int (by decide) ?_
  have e : Int.fdiv ((q : Int) - 1) (2 ^ (1 : Int).toNat) = (((q - 1) / 2 : Nat) : Int) := by
    obtain ⟨r, rfl⟩ : ∃ r, q = r + 1 := ⟨q - 1, by lia⟩
    have e1 : (((r + 1 : Nat) : Int) - 1) = (r : Int) := by lia
    have e2 : (2 : Int) ^ (1 : Int).toNat = 2 := rfl
    rw [e1, e2, Int.fdiv_eq_ediv_of_nonneg _ (by decide)]
    simp
  rw [e]; exact h

section
variable {prog : Program} {w : World} {A : Around} {E : Value → Shared → Prop} {s : Shared} {a : Nat} {t u : Tok} {Q : Value → Shared → Prop}
theorem add1_nat (h : ∀ tk, Q (.int ((a + 1 : Nat) : Int) tk) { s with toks := tk + 1 }) : wpAny (model prog w) A (binaryOp .Add (.int (a : Int) t) (.int 1 u)) Q E s := add_int (h _)
theorem iadd1_nat (h : ∀ tk, Q (.int ((a + 1 : Nat) : Int) tk) { s with toks := tk + 1 }) : wpAny (model prog w) A (inplaceOp .Add (.int (a : Int) t) (.int 1 u)) Q E s := iadd_int (h _)
theorem mul2_nat (h : ∀ tk, Q (.int ((2 * a : Nat) : Int) tk) { s with toks := tk + 1 }) : wpAny (model prog w) A (binaryOp .Mult (.int 2 t) (.int (a : Int) u)) Q E s := mul_int (h _)
end

/-- an order on items: how each lies as a value, what the ledger must bear, and the comparison -/
structure Ordr (κ : Type) where
  val : κ → Value
  ok : Led → κ → Prop
  lt : κ → κ → Bool
  cmp : ∀ {prog : Program} {w : World} {A : Around} {E : Value → Shared → Prop} {s : Shared} {h₀ : Heap} {L : Addr} {news : Led} {x y : κ} {Q : Value → Shared → Prop},
    News h₀ L s.heap news → ok news x → ok news y → A.units + 4 < cLine → (∀ tk, Q (.bool (lt x y)) { s with toks := tk }) → wpAny (model prog w) A (compareOp .Lt (val x) (val y)) Q E s
  mono : ∀ {news news' : Led} {x : κ}, ok news x → (∀ p ∈ news, p ∈ news') → ok news' x

section
variable {prog : Program} {w : World} {A : Around} {E : Value → Shared → Prop} {s : Shared} {h₀ : Heap} {L : Addr} {κ : Type}
theorem Ordr.cmp1 (O : Ordr κ) {pre : Addr × Obj} {rest : Led} {x y : κ} {Q : Value → Shared → Prop} (N : News h₀ L s.heap (pre :: rest)) (hx : O.ok rest x) (hy : O.ok rest y) (hu : A.units + 4 < cLine) (h : ∀ tk, Q (.bool (O.lt x y)) { s with toks := tk }) :
    wpAny (model prog w) A (compareOp .Lt (O.val x) (O.val y)) Q E s := O.cmp (fun p hp => N p (.tail _ hp)) hx hy hu h
theorem get!_mem [Inhabited κ] {xs : List κ} {i : Nat} (h : i < xs.length) : xs[i]! ∈ xs := by
  have e : xs[i]! = xs[i] := by simp [h]
  rw [e]; exact List.getElem_mem h
theorem ok_get! [Inhabited κ] {O : Ordr κ} {rest : Led} {xs : List κ} {i : Nat} (hall : ∀ x ∈ xs, O.ok rest x) (h : i < xs.length) : O.ok rest xs[i]! := hall _ (get!_mem h)
theorem ok_set {O : Ordr κ} {rest : Led} {xs : List κ} {i : Nat} {y : κ} (hall : ∀ x ∈ xs, O.ok rest x) (hy : O.ok rest y) : ∀ x ∈ xs.set i y, O.ok rest x := by
  intro x hx
  rcases List.mem_or_eq_of_mem_set hx with h | h
  · exact hall x h
  · exact h ▸ hy
end

/-- what _siftdown makes of the items -/
noncomputable def sdown {κ : Type} [Inhabited κ] (lt : κ → κ → Bool) (xs : List κ) (new : κ) (st pos : Nat) : List κ :=
  if st < pos then
    if lt new xs[(pos - 1) / 2]! then sdown lt (xs.set pos xs[(pos - 1) / 2]!) new st ((pos - 1) / 2) else xs.set pos new
  else xs.set pos new
termination_by pos
decreasing_by lia
theorem sdown_length {κ : Type} [Inhabited κ] {lt : κ → κ → Bool} {new : κ} {st : Nat} : ∀ (pos : Nat) (xs : List κ), (sdown lt xs new st pos).length = xs.length := by
  intro pos
  induction pos using Nat.strongRecOn with
  | ind pos ih =>
    intro xs
    unfold sdown
    split
    · split
      · rw [ih _ (by lia)]; simp
      · simp
    · simp
theorem sdown_next {κ : Type} [Inhabited κ] {lt : κ → κ → Bool} {xs : List κ} {new : κ} {st pos : Nat} (h : st < pos) (hl : lt new xs[(pos - 1) / 2]! = true) :
    sdown lt (xs.set pos xs[(pos - 1) / 2]!) new st ((pos - 1) / 2) = sdown lt xs new st pos := by
  conv => rhs; unfold sdown
  rw [if_pos h, if_pos hl]
theorem sdown_stop {κ : Type} [Inhabited κ] {lt : κ → κ → Bool} {xs : List κ} {new : κ} {st pos : Nat} (hl : lt new xs[(pos - 1) / 2]! = false) : sdown lt xs new st pos = xs.set pos new := by
  unfold sdown
  rw [hl]; simp
theorem sdown_done {κ : Type} [Inhabited κ] {lt : κ → κ → Bool} {xs : List κ} {new : κ} {st pos : Nat} (h : ¬ st < pos) : sdown lt xs new st pos = xs.set pos new := by
  unfold sdown
  rw [if_neg h]

-- text: Sdown
theorem setup_Sdown : True := by
  k_with_none
  w_top off
  k_with "m:own" => ((with_reducible show wpAny _ _ (subscriptTail _ _ (Value.ref _) (Value.int _ _)) _ _ _); k_dflt (refine' item_ledN (ι := ?ki) ?k1 ?k2 ?k4 ?k5 ?_ ?k7; (case k1 => k_asm); (case k2 => k_mem); (case ki => infer_instance); (case k4 => lia); (case k5 => lia); (case k7 => with_unfolding_all rfl); k_whole))
  k_with "m:own" => ((with_reducible show wpAny _ _ (subscriptTail _ _ (Value.ref _) (Value.int 0 _)) _ _ _); k_dflt (refine' item_led0 (ι := ?ki) ?k1 ?k2 ?k4 ?k5 ?_ ?k7; (case k1 => k_asm); (case k2 => k_mem); (case ki => infer_instance); (case k4 => lia); (case k5 => lia); (case k7 => with_unfolding_all rfl); k_whole))
  k_with "m:own" => ((with_reducible show wpAny _ _ (setItem (Value.ref _) (Value.int 0 _) _) _ _ _); k_dflt (refine' set_led0 ?k1 ?k2 ?k3 ?k5 ?k6 ?_; (case k1 => k_asm); (case k2 => k_asm); (case k3 => first | exact Upd.head (by assumption) | k_upd); (case k5 => lia); (case k6 => lia); k_whole); intro h' F' N'; (try k_sweep))
  k_with "m:own" => ((with_reducible show wpAny _ _ (setItem (Value.ref _) (Value.int _ _) _) _ _ _); k_dflt (refine' set_ledN ?k1 ?k2 ?k3 ?k5 ?k6 ?_; (case k1 => k_asm); (case k2 => k_asm); (case k3 => first | exact Upd.head (by assumption) | k_upd); (case k5 => lia); (case k6 => lia); k_whole); intro h' F' N'; (try k_sweep))
  k_with "m:own" => ((with_reducible show wpAny _ _ (compareOp CmpOp.Lt (Ordr.val _ _) (Ordr.val _ _)) _ _ _); k_dflt (refine' Ordr.cmp1 _ ?k1 ?k2 ?k3 ?k4 ?_; (case k1 => k_asm); (case k2 => first | assumption | exact ok_get! (by assumption) (by lia)); (case k3 => first | assumption | exact ok_get! (by assumption) (by lia)); (case k4 => ktr_units); k_whole); intro tk')
  k_with "m:own" => ((with_reducible refine shr_one ?kb1 ?_); (case kb1 => lia))
  k_with "m:own" => ((with_reducible show wpAny _ _ (call (Value.builtin "len") [Value.ref _]) _ _ _); k_dflt (refine' len_led ?k1 ?k2 ?k3 ?_; (case k1 => k_asm); (case k2 => k_mem); (case k3 => lia); k_whole); intro tl' tk')
  k_with "m:own" => ((with_reducible refine add1_nat ?_); intro tk')
  k_with "m:own" => ((with_reducible refine mul2_nat ?_); intro tk')
  k_with "m:own" => ((with_reducible show wpAny _ _ (call (Value.builtin "list.append") [Value.ref _, Ordr.val _ _]) _ _ _); k_dflt (refine' append_led ?k1 ?k2 ?k3 ?k5 ?_; (case k1 => k_asm); (case k2 => k_asm); (case k3 => first | exact Upd.head (by assumption) | k_upd); (case k5 => unfold sizeLine; lia); k_whole); intro h' F' N'; (try k_sweep))
  k_with "m:own" => ((with_reducible show wpAny _ _ (truthy (Value.ref _)) _ _ _); k_dflt (refine' truthy_led ?k1 ?k2 ?k5 ?_; (case k1 => k_asm); (case k2 => k_mem); (case k5 => unfold sizeLine; lia); k_whole); intro tk')
  k_with "m:own" => ((with_reducible refine half_nat ?_); intro tk')
  k_with "m:own" => ((with_reducible show wpAny _ _ (subscriptTail _ _ (Value.ref _) (Value.int (-1) _)) _ _ _); k_dflt (refine' item_lastS ?k1 ?k2 ?k4 ?k5 ?_ ?k7; (case k1 => k_asm); (case k2 => k_mem); (case k4 => first | assumption | lia); (case k5 => first | assumption | lia); (case k7 => with_unfolding_all rfl); k_whole); (try (have hle' := last_len es' hp')))
  k_with "m:own" => ((with_reducible show wpAny _ _ (call (Value.builtin "str.split") [Value.str _ _, Value.str _ _]) _ _ _); k_dflt (refine' split_led ?k1 ?k2 ?k3 ?_ ?k5; (case k1 => k_asm); (case k2 => k_asm); (case k3 => decide); (case k5 => unfold sizeLine; lia); k_whole); intro Ds' ls' h' tk' es' hp' hw' F' N' l1'; (try k_sweep))
  k_with "m:own" => ((with_reducible show wpAny _ _ (call (Value.builtin "str.join") [Value.str _ _, Value.ref _]) _ _ _); k_dflt (refine' join_led ?k1 ?k2 ?k3 ?_; (case k1 => k_asm); (case k2 => k_mem); (case k3 => k_extra "m:sizes"); k_whole); intro t' tk')
  k_with "m:own" => ((with_reducible show wpAny _ _ (subscriptTail _ (PySem.Expr.Slice none (some _) none _) (Value.ref _) (Value.ref _)) _ _ _); k_dflt (refine' slice_led ?k1 ?k2 ?k3 (IsPart.none) (IsPart.int (-1) _) (pick_init _) ?_ ?s ?t ?z; (case k1 => k_asm); (case k2 => k_asm); (case k3 => k_mem); (case s => with_unfolding_all rfl); (case t => intro _; with_unfolding_all rfl); (case z => unfold sizeLine; lia); k_whole); intro Dl' h' F' N' l1'; (try k_sweep))
  k_with "m:enterC" => (refine' code_defC ?k1 ?k2 ?k3 ?k4 ?k5 ?kA ?kF ?kK ?k6 ?k7 ?k8 ?k9 ?kB ?kD ?_ ?c2 ?c3 ?c4; (case kA => exact rfl); (case kF => exact rfl); (case kK => assumption); (case k1 => k_asm); (case k2 => k_asm); (case k3 => k_asm); (case k4 => k_asm); (case k5 => k_asm); (case k6 => k_is); (case k7 => k_is); (case k8 => ktr_room); (case k9 => exact BindsTo.of_eq rfl); (case kB => exact rfl); (case kD => decide +kernel); (case c2 => exact rfl); (case c3 => exact rfl); (case c4 => exact rfl); k_whole; intro g' L' h' tk' cells' FG' F' N' Y' B' X' T' l1'; k_cells Y'; (try simp only [List.cons_append, List.nil_append] at N'); (try dsimp only); (try k_lift B'); (try k_fold))
  k_with "m:enterD" => (refine' code_defC ?k1 ?k2 ?k3 ?k4 ?k5 ?kA ?kF ?kK ?k6 ?k7 ?k8 ?k9 ?kB ?kD ?_ ?c2 ?c3 ?c4; (case kA => exact rfl); (case kF => exact rfl); (case kK => assumption); (case k1 => k_asm); (case k2 => k_asm); (case k3 => k_asm); (case k4 => k_asm); (case k5 => k_asm); (case k6 => k_is); (case k7 => k_is); (case k8 => ktr_room); (case k9 => exact binds_K (by k_in) rfl (by k_is) rfl rfl rfl); (case kB => exact rfl); (case kD => decide +kernel); (case c2 => exact rfl); (case c3 => exact rfl); (case c4 => exact rfl); k_whole; intro g' L' h' tk' cells' FG' F' N' Y' B' X' T' l1'; k_cells Y'; (try simp only [List.cons_append, List.nil_append] at N'); (try dsimp only); (try k_lift B'); (try k_fold))
  k_with "m:enterK" => (refine' code_def ?k1 ?k2 ?k3 ?k4 ?k5 ?kA ?kF ?kK ?k6 ?k7 ?k8 ?k9 ?kB ?_ ?c2 ?c3 ?c4 ?c5; (case kA => exact rfl); (case kF => exact rfl); (case kK => assumption); (case k1 => k_asm); (case k2 => k_asm); (case k3 => k_asm); (case k4 => k_asm); (case k5 => k_asm); (case k6 => k_is); (case k7 => k_is); (case k8 => ktr_room); (case k9 => first | exact BindsTo.of_eq rfl | exact binds_K (by k_in) rfl (by k_is) rfl rfl rfl); (case c5 => decide); (case kB => exact locs rfl); (case c2 => exact rfl); (case c3 => exact rfl); (case c4 => exact rfl); k_whole; intro g' L' h' FG' F' N' B' X' T'; (try dsimp only); (try k_lift B'); (try k_fold))
  k_with "m:comp" => (k_dflt (refine LCg.ListComp_U (F₀ := by k_asm) (by with_unfolding_all rfl) (by decide) (by rfl) (by decide) (by rfl) ?_))
  k_with "m:own" => ((with_reducible show wpAny _ _ (binaryOp Operator.Pow (Value.int _ _) (Value.int (Nat.cast _) _)) _ _ _); (with_reducible refine pow_small ?k1 ?k2 ?_); (case k1 => decide); (case k2 => lia); intro tk')
  k_with "m:own" => ((with_reducible show wpAny _ _ (subscriptTail _ _ (Value.ref _) (Value.int _ _)) _ _ _); k_dflt (refine' item_any ?k1 ?k2 ?k3 ?k4 ?k5 ?_ ?k7; (case k1 => k_asm); (case k2 => k_mem); (case k3 => assumption); (case k4 => first | assumption | (refine Int.lt_of_lt_of_le (by assumption) ?_; decide)); (case k5 => first | decide | (show _ < _; lia)); (case k7 => with_unfolding_all rfl); k_whole))
  k_with "m:own" => ((with_reducible refine fdiv_pow ?k1 ?k2 ?_); (case k1 => decide); (case k2 => lia); intro tk')
  k_with "m:own" => ((with_reducible show wpAny _ _ (call (Value.builtin "list.index") [Value.ref _, Value.str _ _]) _ _ _); k_dflt (refine' index_strs ?k1 ?k2 ?k3 ?k4 ?_; (case k1 => k_asm); (case k2 => k_mem); (case k3 => assumption); (case k4 => assumption); k_whole); intro tk')
  k_with "m:own" => ((with_reducible show wpAny _ _ (subscriptTail _ (PySem.Expr.Slice none (some _) none _) (Value.ref _) (Value.ref _)) _ _ _); k_dflt (refine' slice_led ?k1 ?k2 ?k3 (IsPart.none) (IsPart.int (Nat.cast _) _) (pick_upto _ _) ?_ ?s ?t ?z; (case k1 => k_asm); (case k2 => k_asm); (case k3 => k_mem); (case s => with_unfolding_all rfl); (case t => intro _; with_unfolding_all rfl); (case z => unfold sizeLine; lia); k_whole); intro Dl' h' F' N' l1'; (try k_sweep))
  k_with "m:own" => ((with_reducible show wpAny _ _ (subscriptTail _ (PySem.Expr.Slice (some _) none none _) (Value.ref _) (Value.ref _)) _ _ _); k_dflt (refine' slice_led ?k1 ?k2 ?k3 (IsPart.int (Nat.cast _) _) (IsPart.none) (pick_from _ _) ?_ ?s ?t ?z; (case k1 => k_asm); (case k2 => k_asm); (case k3 => k_mem); (case s => with_unfolding_all rfl); (case t => intro _; with_unfolding_all rfl); (case z => unfold sizeLine; lia); k_whole); intro Dl' h' F' N' l1'; (try k_sweep))
  k_with "m:enterB" => (refine' kp_both ?k1 ?k2 ?k3 ?k4 ?k5 ?kA ?kF ?kK ?k6 ?k7 ?k8 ?kV ?kX ?kQ ?kM ?kN ?kD ?kR ?kP ?kS ?kT ?kB ?_ ?c2 ?c3 ?c4 ?c5; (case kA => exact rfl); (case kF => exact rfl); (case kK => assumption); (case k1 => k_asm); (case k2 => k_asm); (case k3 => k_asm); (case k4 => k_asm); (case k5 => k_asm); (case k6 => k_is); (case k7 => k_is); (case k8 => ktr_room); (case kV => kp_lit); (case kX => kp_lit); (case kQ => exact rfl); (case kM => exact rfl); (case kN => exact rfl); (case kD => kp_flats); (case kR => exact rfl); (case kP => exact rfl); (case kS => exact fun _ => rfl); (case kT => exact fun _ _ => rfl); (case kB => exact fun _ _ => locs rfl); (case c5 => decide); (case c2 => exact rfl); (case c3 => exact rfl); (case c4 => exact rfl); k_whole; intro C' D' o' g' L' h' tk' l1 l2 lo' hs' fs' FG' F' N' B' X' T'; (try dsimp only); (try k_lift B'); (try k_fold))
  k_with "m:own" => ((with_reducible show wpAny _ _ (call (Value.builtin "list.append") [Value.ref _, Value.str _ _]) _ _ _); k_dflt (refine' append_strs ?k1 ?k2 ?k3 ?k5 ?_; (case k1 => k_asm); (case k2 => k_asm); (case k3 => first | exact Upd.head (by assumption) | exact Upd.tail (by assumption) (Upd.head (by assumption)) | k_upd); (case k5 => unfold sizeLine; lia); k_whole); intro h' F' N'; (try k_sweep))
  k_with "m:same" => first | (intro z hp hz; (try dsimp only); (repeat (first | exact same_kst hz | refine same_ite (ne_c rfl hz) ?_)); done) | ksw_same
  k_with "m:use" => ((case k1 => k_asm); (case k2 => k_asm); (case k3 => k_asm); (case k4 => k_asm); (case k5 => k_asm); (case k6 => exact rfl); (case k7 => first | exact room2 (by assumption) rfl | exact room3 (by assumption) rfl | exact room4 (by assumption) rfl | exact room5 (by assumption) rfl | ktr_room); (case k8 => first | exact room2 (by assumption) rfl | exact room3 (by assumption) rfl | exact room4 (by assumption) rfl | exact room5 (by assumption) rfl | ktr_units))
  k_with "m:steps" => repeat' (
    (fail_if_success (with_reducible show wpAny _ _ (exec (Stmt.While _ _ _ _) _) _ _ _))
    (fail_if_success (with_reducible show wpAny _ _ (exec (Stmt.For _ _ _ _ _) _) _ _ _))
    (fail_if_success (with_reducible show wpAny _ _ (eval (PySem.Expr.ListComp _ _ _ _) _) _ _ _))
    (fail_if_success (with_reducible show wpAny _ _ (exec (Stmt.Assign _ (PySem.Expr.ListComp _ _ _ _) _) _) _ _ _))
    (fail_if_success (with_reducible show LCg.CompSrc _ _ _ _ _ _ _ _ _ _ _ _ _ _))
    (fail_if_success (with_reducible show LCg.CompRest _ _ _ _ _ _ _ _ _ _ _ _ _ _ _ _ _ _ _))
    (fail_if_success (with_reducible show LCg.CompEnd _ _ _ _ _ _ _ _ _ _ _ _ _ _))
    (fail_if_success (with_reducible show ItEnd _ _ _ _ _ _ _ _ _ _ _))
    (fail_if_success (with_reducible show wpAny _ _ (call (Value.type "reversed") _) _ _ _))
    (fail_if_success (with_reducible show KswEnd _ _ _ _ _ _ _ _ _ _ _ _))
    (fail_if_success (k_extra "m:stop"))
    first | (k_unfold; (try dsimp only)) | ((with_reducible show wpAny _ _ (execs (_ :: _) _) _ _ _); k_fold) | k_extra "m:own" | walk1 | (dsimp only; walk1) | (leave1; walk_say "STEP leave1"; try dsimp only) | fail "no step")
  trivial
theorem siftdown_con {w : World} {mean : ExcName → Option Value} {mg mb : Str → Option Value} {κ : Type} [Inhabited κ] (O : Ordr κ) {l : Addr} {rest : Led} {xs : List κ} {n : Nat} {st pos : Nat} {t1 t2 : Tok} (hrest : ∀ p ∈ rest, p.1 ≠ l) 
   (hok : ∀ x ∈ xs, O.ok rest x) (hlt : pos < xs.length) (hsz : xs.length < 1000) :
    Con w mean mg mb 160 1 8 ((l, listOf (xs.map O.val).toArray n) :: rest) [.ref l, .int st t1, .int pos t2] (fun r news' => r = .none ∧ news' = (l, listOf ((sdown O.lt xs xs[pos]! st pos).map O.val).toArray n) :: rest) := by
  have mk1 : True := .intro
  unfold Con
  k_fill
  intro dp un gd cn cs a ccd cl outer A₀ base h₀ L m s Q E B F X N T hk hd hu hret
  refine wpAny_call ?_
  k_dflt cell_enter
  k_extra "m:steps"
  (rename Fr _ _ _ _ => Fn); (rename News _ _ _ _ => Nn)
  have hnew := ok_get! hok hlt
  generalize xs[pos]! = new at *
  refine ksw_while (σ := List κ × Nat × Tok) (fun c => (l, listOf (c.1.map O.val).toArray n) :: rest) (fun c => [(Str.ofString "pos", .int c.2.1 c.2.2)]) (fun _ => True) [Str.ofString "parentpos", Str.ofString "parent", Str.ofString "pos"]
    (fun c => c.1.length = xs.length ∧ c.2.1 < xs.length ∧ (∀ x ∈ c.1, O.ok rest x) ∧ sdown O.lt c.1 new st c.2.1 = sdown O.lt xs new st pos) (fun c => c.2.1) (xs, pos, t2) Fn Nn trivial ?hk ⟨rfl, hlt, hok, rfl⟩ ?turn
  case hk => exact List.forall_mem_cons.mpr ⟨rfl, List.forall_mem_nil _⟩
  case turn =>
    clear Fn Nn
    refine elim3 ?_
    intro ys q tq u h9 tk9 _ hP9 F9 N9
    refine gen_P fun R9 hR9 => ?_
    obtain ⟨e1, e2, e3, e4⟩ := hP9
    refine of_P hR9 (gen_while fun R8 R7 hR8 hR7 => ?_)
    clear hR9 R9
    k_with "m:own" => ((fail_if_success fail_if_success clear mk1); ((refine of_Q hR8 ?_; (try dsimp only))))
    k_with "m:own" => ((fail_if_success fail_if_success clear mk1); ((refine of_Q1 hR7 ?_; (try dsimp only))))
    dsimp only [kstB] at *
    k_extra "m:steps"
    · exact ksw_end (ys.set q ys[(q - 1) / 2]!, (q - 1) / 2, _) (by assumption) (by assumption) (fun p hp => hp) trivial (List.forall_mem_cons.mpr ⟨rfl, List.forall_mem_nil _⟩) (by k_extra "m:same")
        ⟨by simpa using e1, by dsimp only; lia, ok_set e3 (ok_get! e3 (by lia)), (sdown_next (by lia) (by assumption)).trans e4⟩ (by dsimp only; lia)
    · exact hret _ _ _ _ (by assumption) (by assumption) ⟨rfl, by rw [← e4, sdown_stop (by simp_all)]⟩
    · exact hret _ _ _ _ (by assumption) (by assumption) ⟨rfl, by rw [← e4, sdown_done (by lia)]⟩

-- text: Sup
/-- the smaller child's place -/
noncomputable def ch {κ : Type} [Inhabited κ] (lt : κ → κ → Bool) (xs : List κ) (p : Nat) : Nat := if 2 * p + 1 + 1 < xs.length ∧ lt xs[2 * p + 1]! xs[2 * p + 1 + 1]! = false then 2 * p + 1 + 1 else 2 * p + 1
noncomputable def bub {κ : Type} [Inhabited κ] (lt : κ → κ → Bool) : Nat → List κ → Nat → List κ × Nat
  | 0, xs, p => (xs, p)
  | k + 1, xs, p => if 2 * p + 1 < xs.length then bub lt k (xs.set p xs[ch lt xs p]!) (ch lt xs p) else (xs, p)
/-- what _siftup makes of the items -/
noncomputable def sup {κ : Type} [Inhabited κ] (lt : κ → κ → Bool) (xs : List κ) (pos : Nat) : List κ :=
  sdown lt ((bub lt xs.length xs pos).1.set (bub lt xs.length xs pos).2 xs[pos]!) xs[pos]! pos (bub lt xs.length xs pos).2
theorem ch_lt {κ : Type} [Inhabited κ] {lt : κ → κ → Bool} {xs : List κ} {p : Nat} (h : 2 * p + 1 < xs.length) : ch lt xs p < xs.length ∧ p < ch lt xs p := by
  unfold ch; split <;> lia
theorem bub_done {κ : Type} [Inhabited κ] {lt : κ → κ → Bool} {xs : List κ} {p k : Nat} (h : ¬ 2 * p + 1 < xs.length) : bub lt k xs p = (xs, p) := by
  cases k with
  | zero => rfl
  | succ k => simp only [bub, if_neg h]
theorem bub_next {κ : Type} [Inhabited κ] {lt : κ → κ → Bool} {xs : List κ} {p k : Nat} {r : List κ × Nat} (h : 2 * p + 1 < xs.length) (hk : xs.length ≤ k + p) (e : bub lt k xs p = r) : ∃ k', xs.length ≤ k' + ch lt xs p ∧ bub lt k' (xs.set p xs[ch lt xs p]!) (ch lt xs p) = r := by
  cases k with
  | zero => lia
  | succ k =>
    have := ch_lt (lt := lt) h
    exact ⟨k, by lia, by simpa only [bub, if_pos h] using e⟩
theorem ch_left {κ : Type} [Inhabited κ] {lt : κ → κ → Bool} {xs : List κ} {p : Nat} (h : lt xs[2 * p + 1]! xs[2 * p + 1 + 1]! = true) : ch lt xs p = 2 * p + 1 := by
  unfold ch; rw [if_neg]; intro ⟨_, h2⟩; rw [h] at h2; cases h2
theorem ch_short {κ : Type} [Inhabited κ] {lt : κ → κ → Bool} {xs : List κ} {p : Nat} (h : ¬ 2 * p + 1 + 1 < xs.length) : ch lt xs p = 2 * p + 1 := by
  unfold ch; rw [if_neg]; exact fun h2 => h h2.1
theorem ch_right {κ : Type} [Inhabited κ] {lt : κ → κ → Bool} {xs : List κ} {p : Nat} (h1 : 2 * p + 1 + 1 < xs.length) (h : lt xs[2 * p + 1]! xs[2 * p + 1 + 1]! = false) : ch lt xs p = 2 * p + 1 + 1 := by
  unfold ch; rw [if_pos ⟨h1, h⟩]
theorem meas_lt {n q c : Nat} (h : q < n) (h2 : q < c) : n - c < n - q := Nat.sub_lt_sub_left h h2
noncomputable def IntEnd (h₀ : Heap) (L : Addr) (m : Str → Option Value) (news : Led) (s : Shared) (x : Str) (R : Nat → Prop) (f : Flow) (s₁ : Shared) : Prop :=
  ∃ (c : Nat) (t : Tok) (h' : Heap) (tk' : Nat) (m' : Str → Option Value), f = .next ∧ s₁ = { s with heap := h', toks := tk' } ∧ Fr h₀ L h' m' ∧ News h₀ L h' news ∧ m' x = some (.int (c : Int) t) ∧ (∀ z, z ≠ x → m' z = m z) ∧ R c
theorem int_end {h₀ : Heap} {L : Addr} {m m' : Str → Option Value} {news : Led} {s : Shared} {x : Str} {R : Nat → Prop} {c : Nat} {t : Tok} {h' : Heap} {tk' : Nat} (F : Fr h₀ L h' m') (N : News h₀ L h' news) (hx : m' x = some (.int (c : Int) t)) (ho : ∀ z, z ≠ x → m' z = m z) (r : R c) : IntEnd h₀ L m news s x R .next { s with heap := h', toks := tk' } := ⟨c, t, h', tk', m', rfl, rfl, F, N, hx, ho, r⟩
/-- the branches of an If that writes one name, joined -/
theorem cut_int {prog : Program} {w : World} {A : Around} {E : Value → Shared → Prop} {s : Shared} {h₀ : Heap} {L : Addr} {m : Str → Option Value} {news : Led} {t : Sem Flow} {Q : Flow → Shared → Prop} {x : Str} (_ : Fr h₀ L s.heap m) (_ : News h₀ L s.heap news) (R : Nat → Prop)
    (ha : wpAny (model prog w) A t (IntEnd h₀ L m news s x R) E s) (hb : ∀ c tv h' tk' m', Fr h₀ L h' m' → News h₀ L h' news → m' x = some (.int (c : Nat) tv) → (∀ z, z ≠ x → m' z = m z) → R c → Q .next { s with heap := h', toks := tk' }) : wpAny (model prog w) A t Q E s :=
  wpAny_mono ha (fun f s₁ ⟨c, tv, h', tk', m', e1, e2, F', N', hx, ho, r⟩ => by rw [e1, e2]; exact hb c tv h' tk' m' F' N' hx ho r) fun _ _ e => e
theorem siftup_con {w : World} {mean : ExcName → Option Value} {mg mb : Str → Option Value} {κ : Type} [Inhabited κ] (O : Ordr κ) {l : Addr} {rest : Led} {xs : List κ} {n : Nat} {pos : Nat} {t2 : Tok} (hrest : ∀ p ∈ rest, p.1 ≠ l) 
   (hok : ∀ x ∈ xs, O.ok rest x) (hlt : pos < xs.length) (hsz : xs.length < 1000) :
    Con w mean mg mb 167 2 16 ((l, listOf (xs.map O.val).toArray n) :: rest) [.ref l, .int pos t2] (fun r news' => r = .none ∧ news' = (l, listOf ((sup O.lt xs pos).map O.val).toArray n) :: rest) := by
  have mk2 : True := .intro
  unfold Con
  k_fill
  intro dp un gd cn cs a ccd cl outer A₀ base h₀ L m s Q E B F X N T hk hd hu hret
  refine wpAny_call ?_
  k_dflt cell_enter
  (rename Fr _ _ _ _ => Fe)
  refine gen_m Fe fun me hfe Fe' => ?_
  clear Fe
  have meH : me (Str.ofString "heap") = some (.ref l) := hfe _ _ rfl
  have meP : me (Str.ofString "pos") = some (.int (pos : Nat) t2) := hfe _ _ rfl
  k_with "m:own" => ((fail_if_success fail_if_success clear mk2); (((with_reducible show wpAny _ _ (eval (PySem.Expr.Name _ _) (envOf _ _ _ _ _)) _ _ _); k_dflt (refine' nameX_L ?F ?v ?_ ?a ?b; (case F => k_asm); (case v => first | with_reducible assumption | exact meH | exact meP); (case a => rfl); (case b => rfl); k_whole))))
  k_extra "m:steps"
  (rename Fr _ _ _ _ => Fn); (rename News _ _ _ _ => Nn)
  have hnew := ok_get! hok hlt
  generalize hgen : xs[pos]! = new at *
  refine gen_m Fn fun m0 hf0 Fn => ?_
  have m0H : m0 (Str.ofString "heap") = some (.ref l) := hf0 _ _ meH
  have m0E : m0 (Str.ofString "endpos") = some (.int (xs.length : Nat) tl') := hf0 _ _ rfl
  have m0N : m0 (Str.ofString "newitem") = some (O.val new) := hf0 _ _ rfl
  have m0S : m0 (Str.ofString "startpos") = some (.int (pos : Nat) t2) := hf0 _ _ rfl
  have m0P : m0 (Str.ofString "pos") = some (.int (pos : Nat) t2) := hf0 _ _ meP
  have m0C : m0 (Str.ofString "childpos") = some (.int ((2 * pos + 1 : Nat) : Int) tk') := hf0 _ _ rfl
  refine ksw_while (σ := List κ × Nat × Tok × Tok × Nat) (fun c => (l, listOf (c.1.map O.val).toArray n) :: rest) (fun c => [(Str.ofString "pos", .int c.2.1 c.2.2.1), (Str.ofString "childpos", .int ((2 * c.2.1 + 1 : Nat) : Int) c.2.2.2.1)]) (fun _ => True) [Str.ofString "rightpos", Str.ofString "childpos", Str.ofString "pos"]
    (fun c => c.1.length = xs.length ∧ c.2.1 < xs.length ∧ (∀ x ∈ c.1, O.ok rest x) ∧ xs.length ≤ c.2.2.2.2 + c.2.1 ∧ bub O.lt c.2.2.2.2 c.1 c.2.1 = bub O.lt xs.length xs pos) (fun c => xs.length - c.2.1) (xs, pos, t2, tk', xs.length) Fn Nn trivial ?hk ⟨rfl, hlt, hok, by dsimp only; lia, rfl⟩ ?turn
  case hk => exact List.forall_mem_cons.mpr ⟨m0P, List.forall_mem_cons.mpr ⟨m0C, List.forall_mem_nil _⟩⟩
  case turn =>
    clear Fn Nn
    refine elim5 ?_
    intro ys q tq tc k u h9 tk9 _ hP9 F9 N9
    refine gen_P fun R9 hR9 => ?_
    obtain ⟨e1, e2, e3, e5, e4⟩ := hP9
    refine of_P hR9 (gen_while fun R8 R7 hR8 hR7 => ?_)
    clear hR9 R9
    k_with "m:own" => ((fail_if_success fail_if_success clear mk2); ((refine of_Q hR8 ?_; (try dsimp only))))
    k_with "m:own" => ((fail_if_success fail_if_success clear mk2); ((refine of_Q1 hR7 ?_; (try dsimp only))))
    refine gen_m F9 fun m6 hf6 F6 => ?_
    clear F9
    have mH : m6 (Str.ofString "heap") = some (.ref l) := hf6 _ _ m0H
    have mE : m6 (Str.ofString "endpos") = some (.int (xs.length : Nat) tl') := hf6 _ _ m0E
    have mC : m6 (Str.ofString "childpos") = some (.int ((2 * q + 1 : Nat) : Int) tc) := hf6 _ _ rfl
    have mP : m6 (Str.ofString "pos") = some (.int (q : Nat) tq) := hf6 _ _ rfl
    have mN : m6 (Str.ofString "newitem") = some (O.val new) := hf6 _ _ m0N
    have mS : m6 (Str.ofString "startpos") = some (.int (pos : Nat) t2) := hf6 _ _ m0S
    have mo : ∀ z, [Str.ofString "rightpos", Str.ofString "childpos", Str.ofString "pos"].contains z = false → m6 z = m0 z := fun z hz => hf6 _ _ (same_ite (ne_c rfl hz) (same_ite (ne_c rfl hz) (same_kst hz)))
    k_with "m:own" => ((fail_if_success fail_if_success clear mk2); (((with_reducible show wpAny _ _ (eval (PySem.Expr.Name _ _) (envOf _ _ _ _ _)) _ _ _); k_dflt (refine' nameX_L ?F ?v ?_ ?a ?b; (case F => k_asm); (case v => first | with_reducible assumption | exact mH | exact mE | exact mC | exact mP); (case a => rfl); (case b => rfl); k_whole))))
    k_with "m:stop" => ((fail_if_success fail_if_success clear mk2); ((with_reducible show wpAny _ _ (exec (Stmt.If _ _ _ _) _) _ _ _)))
    k_extra "m:steps"
    · (rename Fr _ _ _ _ => Fn); (rename News _ _ _ _ => Nn)
      refine cut_int (x := Str.ofString "childpos") Fn Nn (fun c => c = ch O.lt ys q) ?_ fun c tv h5 tk5 m5 F5 N5 mc m5o hc => ?_
      · refine wpAny_If ?_
        k_extra "m:steps"
        · exact int_end (by assumption) (by assumption) (by exact mC) (fun _ _ => rfl) (ch_left (by assumption)).symm
        · exact int_end (by assumption) (by assumption) (if_pos rfl) (fun _ h => if_neg h) (ch_right (by lia) (by assumption)).symm
        · exact int_end (by assumption) (by assumption) (by exact mC) (fun _ _ => rfl) (ch_short (by lia)).symm
      · have hq2 : 2 * q + 1 < ys.length := by lia
        have hcl := ch_lt (lt := O.lt) hq2
        obtain ⟨k', hk', eb⟩ := bub_next hq2 (by lia) e4
        rw [← hc] at hcl hk' eb
        clear Fn Nn
        have mH : m5 (Str.ofString "heap") = some (.ref l) := (m5o _ (by decide)).trans mH
        have mP : m5 (Str.ofString "pos") = some (.int (q : Nat) tq) := (m5o _ (by decide)).trans mP
        dsimp only
        k_extra "m:steps"
        exact ksw_end (ys.set q ys[c]!, c, _, _, k') (by assumption) (by assumption) (fun p hp => hp) trivial (List.forall_mem_cons.mpr ⟨rfl, List.forall_mem_cons.mpr ⟨rfl, List.forall_mem_nil _⟩⟩) (fun z hp hz => 
            same_ite (ne_c rfl hz) (same_ite (ne_c rfl hz) ((m5o _ (ne_c rfl hz)).trans (same_ite (ne_c rfl hz) (mo z hz)))))
          ⟨by simpa using e1, by dsimp only; exact e1 ▸ hcl.1, ok_set e3 (ok_get! e3 hcl.1), by dsimp only; exact e1 ▸ hk', eb⟩ (by dsimp only; exact meas_lt e2 hcl.2)
    · k_dflt (refine' Con.use2 ?k1 ?k2 ?k3 ?k4 ?k5 ?k6 (siftdown_con (pos := q) O hrest ?c1 ?c2 ?c3) ?k7 ?k8 ?_)
      (case k1 => k_asm)
      (case k2 => k_asm)
      (case k3 => k_asm)
      (case k4 => k_asm)
      (case k5 => k_asm)
      (case k6 => exact rfl)
      (case k7 => ktr_room)
      (case k8 => ktr_units)
      (case c1 => exact ok_set e3 hnew)
      (case c2 => simp; lia)
      (case c3 => simp; lia)
      intro h' tk' F' N'
      k_extra "m:steps"
      rw [bub_done (by lia)] at e4
      refine hret _ _ _ _ (by assumption) (by assumption) ⟨rfl, ?_⟩
      unfold sup
      rw [← e4, hgen]
      have : (ys.set q new)[q]! = new := by simp [e1, e2]
      rw [this]

-- text: Heaps
theorem heappush_con {w : World} {mean : ExcName → Option Value} {mg mb : Str → Option Value} {κ : Type} [Inhabited κ] (O : Ordr κ) {l : Addr} {rest : Led} {xs : List κ} {x : κ} {n : Nat} (hrest : ∀ p ∈ rest, p.1 ≠ l)
   (hok : ∀ y ∈ xs, O.ok rest y) (hx : O.ok rest x) (hsz : xs.length < 900) :
    Con w mean mg mb 118 2 16 ((l, listOf (xs.map O.val).toArray n) :: rest) [.ref l, O.val x] (fun r news' => r = .none ∧ news' = (l, listOf ((sdown O.lt (xs ++ [x]) x 0 xs.length).map O.val).toArray (n + 1)) :: rest) := by
  unfold Con
  k_fill
  intro dp un gd cn cs a ccd cl outer A₀ base h₀ L m s Q E B F X N T hk hd hu hret
  refine wpAny_call ?_
  k_dflt cell_enter
  have hl1 : (xs ++ [x]).length = xs.length + 1 := by simp
  k_extra "m:steps"
  have e : (((xs ++ [x]).length : Nat) : Int) - 1 = (xs.length : Nat) := by rw [hl1]; lia
  rw [e]
  k_dflt (refine' Con.use2 ?k1 ?k2 ?k3 ?k4 ?k5 ?k6 (siftdown_con (st := 0) O hrest ?c1 ?c2 ?c3) ?k7 ?k8 ?_)
  k_extra "m:use"
  (case c1 => intro y hy; rcases List.mem_append.mp hy with hy | hy; exact hok y hy; exact (List.mem_singleton.mp hy) ▸ hx)
  (case c2 => rw [hl1]; lia)
  (case c3 => rw [hl1]; lia)
  intro h' tk' F' N'
  k_extra "m:steps"
  refine hret _ _ _ _ (by assumption) (by assumption) ⟨rfl, ?_⟩
  simp
theorem pop_hd {κ : Type} [Inhabited κ] {xs : List κ} {x : κ} (h : 0 < xs.length) : xs[0]! = (xs ++ [x])[0]! := by
  cases xs with
  | nil => cases h
  | cons a r => rfl
theorem pop_tl {κ β : Type} {xs : List κ} {a b : β} (h : 0 < xs.length) : (if xs.isEmpty = true then a else b) = b := by
  cases xs with
  | nil => cases h
  | cons c r => rfl
theorem pop_none {κ : Type} {xs : List κ} (h : ¬ 0 < xs.length) : xs = [] := List.eq_nil_of_length_eq_zero (Nat.eq_zero_of_not_pos h)
theorem heappop_con {w : World} {mean : ExcName → Option Value} {mg mb : Str → Option Value} {κ : Type} [Inhabited κ] (O : Ordr κ) {l : Addr} {rest : Led} {xs : List κ} {x : κ} {n : Nat} (hrest : ∀ p ∈ rest, p.1 ≠ l)
   (hok : ∀ y ∈ xs, O.ok rest y) (hx : O.ok rest x) (hsz : xs.length < 900) :
    Con w mean mg mb 125 3 24 ((l, listOf ((xs ++ [x]).map O.val).toArray n) :: rest) [.ref l] (fun r news' => r = O.val ((xs ++ [x])[0]!) ∧ news' = (l, listOf ((if xs.isEmpty then [] else sup O.lt (xs.set 0 x) 0).map O.val).toArray (n + 1)) :: rest) := by
  unfold Con
  k_fill
  intro dp un gd cn cs a ccd cl outer A₀ base h₀ L m s Q E B F X N T hk hd hu hret
  refine wpAny_call ?_
  k_dflt cell_enter
  k_extra "m:steps"
  k_dflt (refine' pop_led (val := O.val) (xs := xs ++ [x]) (ys := xs) (y := x) ?k1 ?k2 rfl ?k3 ?k5 ?_)
  (case k1 => k_asm)
  (case k2 => k_asm)
  (case k3 => exact Upd.head hrest)
  (case k5 => simp; unfold sizeLine; lia)
  intro h' F' N'
  (try k_sweep)
  k_extra "m:steps"
  · k_dflt (refine' Con.use2 ?k1 ?k2 ?k3 ?k4 ?k5 ?k6 (siftup_con (pos := 0) O hrest ?c1 ?c2 ?c3) ?k7 ?k8 ?_)
    k_extra "m:use"
    (case c1 => exact ok_set hok hx)
    (case c2 => simpa using (by assumption))
    (case c3 => simp; lia)
    intro h' tk' F' N'
    k_extra "m:steps"
    refine hret _ _ _ _ (by assumption) (by assumption) ⟨congrArg _ (pop_hd (by assumption)), by rw [pop_tl (by assumption)]⟩
  · skip
    have e0 := pop_none (xs := xs) (by assumption)
    refine hret _ _ _ _ (by assumption) (by assumption) ⟨by rw [e0]; rfl, by rw [e0]; rfl⟩

-- text: Loops
theorem news_perm {h₀ h : Heap} {L : Addr} {a b : Led} (N : News h₀ L h a) (hs : ∀ p ∈ b, p ∈ a) : News h₀ L h b := fun p hp => N p (hs p hp)
theorem allLt_out {d : Addr} : ∀ {l : Led}, AllLt d l → ∀ p ∈ l, p.1 ≠ d
  | [], _, _, hp => nomatch hp
  | _ :: _, h, _, .head _ => Nat.ne_of_lt h.1
  | _ :: _, h, _, .tail _ hp => allLt_out h.2 _ hp
/-- a turn's end under my loop rule -/
noncomputable def ItEnd {σ : Type} (h₀ : Heap) (L : Addr) (s : Shared) (its : Led) (Ld : σ → Led) (ps : σ → List (Str × Value)) (stored : List Str) (m₀ : Str → Option Value) (keep : Led) (P : σ → Prop) (s₂ : Shared) : Prop :=
  ∃ (c' : σ) (h' : Heap) (tk : Nat) (m' : Str → Option Value), s₂ = { s with heap := h', toks := tk } ∧ Fr h₀ L h' m' ∧ News h₀ L h' (its ++ Ld c') ∧ (∀ p ∈ Ld c', ∀ q ∈ its, p.1 ≠ q.1) ∧ (∀ p ∈ keep, p ∈ Ld c') ∧ (∀ p ∈ ps c', m' p.1 = some p.2) ∧ (∀ z, (∀ p ∈ ps c', z ≠ p.1) → stored.contains z = false → m' z = m₀ z) ∧ P c'
noncomputable def ItPost {σ : Type} (h₀ : Heap) (L : Addr) (s : Shared) (its : Led) (Ld : σ → Led) (ps : σ → List (Str × Value)) (stored : List Str) (m₀ : Str → Option Value) (keep : Led) (P : σ → Prop) (Q : Flow → Shared → Prop) (f : Flow) (s₂ : Shared) : Prop :=
  match f with
  | .ret v => Q (.ret v) s₂
  | .brk => Q .next s₂
  | _ => ItEnd h₀ L s its Ld ps stored m₀ keep P s₂
theorem it_end {σ : Type} {h₀ : Heap} {L : Addr} {s : Shared} {its : Led} {Ld : σ → Led} {ps : σ → List (Str × Value)} {stored : List Str} {m₀ m' : Str → Option Value} {keep all : Led} {P : σ → Prop} {h' : Heap} {tk : Nat} (c' : σ)
    (F : Fr h₀ L h' m') (N : News h₀ L h' all) (hn : ∀ p ∈ its ++ Ld c', p ∈ all) (off : ∀ p ∈ Ld c', ∀ q ∈ its, p.1 ≠ q.1) (hk : ∀ p ∈ keep, p ∈ Ld c') (hp : ∀ p ∈ ps c', m' p.1 = some p.2) (hr : ∀ z, (∀ p ∈ ps c', z ≠ p.1) → stored.contains z = false → m' z = m₀ z) (hP : P c') :
    ItEnd h₀ L s its Ld ps stored m₀ keep P { s with heap := h', toks := tk } := ⟨c', h', tk, m', rfl, F, fun p hp => N p (hn p hp), off, hk, hp, hr, hP⟩
theorem subL_of : ∀ {a b : Led}, (∀ p ∈ a, p ∈ b) → SubL a b
  | [], _, _ => trivial
  | _ :: _, _, h => ⟨h _ (.head _), subL_of fun p hp => h p (.tail _ hp)⟩
theorem allObj_mono {k k' : Led → Prop} (hk : ∀ its, k its → k' its) : ∀ {ws : List (Addr × String)}, AllObj ws k → AllObj ws k' := by
  intro ws
  induction ws generalizing k k' with
  | nil => exact hk []
  | cons a r ih => exact fun h o ho => ih (fun its x => hk _ x) (h o ho)
section
variable {prog : Program} {w : World} {A : Around} {E : Value → Shared → Prop} {s : Shared} {env : Env} {h₀ : Heap} {target : Expr} {body : List Stmt} {Q : Flow → Shared → Prop}
/-- a loop over items by an invariant over the rest of the items and a state -/
theorem items_st {σ : Type} {ws : List (Addr × String)} {keep : Led} {m₀ : Str → Option Value} (Ld : σ → Led) (ps : σ → List (Str × Value)) (stored : List Str) (P : List Itm → σ → Prop)
    (turn : ∀ a r (c : σ) (u : Str → Option Value) v h tk, P (a :: r) c → a.Is v h → Fr h₀ env.locals h (kstB (fun z => if stored.contains z then u z else m₀ z) (ps c)) → AllObj ws (fun its => News h₀ env.locals h (its ++ Ld c) →
      wpAny (model prog w) A (assign target env v) (fun _ s₂ => wpAny (model prog w) A (execs body env) (ItPost h₀ env.locals s its Ld ps stored m₀ keep (P r) Q) E s₂) E { s with heap := h, toks := tk }))
    (done : ∀ (c : σ) (u : Str → Option Value) h tk, P [] c → Fr h₀ env.locals h (kstB (fun z => if stored.contains z then u z else m₀ z) (ps c)) → News h₀ env.locals h (Ld c) → Q .next { s with heap := h, toks := tk }) :
    ∀ (items : List Itm) (c : σ) (m : Str → Option Value), P items c → (∀ p ∈ ps c, m p.1 = some p.2) → (∀ z, (∀ p ∈ ps c, z ≠ p.1) → stored.contains z = false → m z = m₀ z) →
      ItemsRest prog w A E h₀ env target body Q s ws keep items m (Ld c) := by
  intro items
  induction items with
  | nil => exact fun c m hP h1 h2 h tk F N => done c m h tk hP (ksw_fr h1 h2 F) N
  | cons a r ih =>
    intro c m hP h1 h2 v h tk hv F
    refine allObj_mono (fun its k N => ?_) (turn a r c m v h tk hP hv (ksw_fr h1 h2 F))
    refine wpAny_mono (k N) (fun _ s₂ q => wpAny_mono q (fun f s₃ z => ?_) fun _ _ e => e) fun _ _ e => e
    have fin : ItEnd h₀ env.locals s its Ld ps stored m₀ keep (P r) s₃ → UnrEndW h₀ env.locals { s with heap := h, toks := tk } its (fun m' n' => SubL keep n' ∧ ItemsRest prog w A E h₀ env target body Q s ws keep r m' n') s₃ := by
      intro hG31
      refine gen_P fun R9 hR9 => ?_
      obtain ⟨c', h', tk', m', rfl, F', N', off, hk, hp, hr, hP'⟩ := hG31
      refine of_P hR9 ?_
      clear hR9 R9
      exact ⟨h', tk', m', Ld c', rfl, F', N', off, subL_of hk, ih c' m' hP' hp hr⟩
    cases f with
    | ret v => exact z
    | brk => exact z
    | next => exact fin z
    | cont => exact fin z
/-- a range iterator's items -/
noncomputable def rangeItems (a c : Int) (n : Nat) : List Itm := (List.range n).map fun (i : Nat) => Itm.tok fun t => Value.int (a + (i : Int) * c) t
theorem rangeItems_succ (a c : Int) (n : Nat) : rangeItems a c (n + 1) = (Itm.tok fun t => Value.int a t) :: rangeItems (a + c) c n := by
  unfold rangeItems
  rw [List.range_succ_eq_map, List.map_cons, List.map_map]
  have e1 : a + ((0 : Nat) : Int) * c = a := by simp
  rw [e1]
  congr 1
  apply List.map_congr_left
  intro i _
  have e2 : a + ((i + 1 : Nat) : Int) * c = a + c + (i : Int) * c := by rw [Int.natCast_succ, Int.add_mul]; lia
  show Itm.tok _ = Itm.tok _
  rw [← e2]
theorem iter_rangeTurns {I : Addr} {a c : Int} {n : Nat} {m₀ : Str → Option Value} {news : Led} (hh : A.handled = none) (F : Fr h₀ env.locals s.heap m₀) (N : News h₀ env.locals s.heap news) (hit : IsRangeIter s.heap I a n c)
    (hI : h₀.get? I = none) (hL : env.locals ≠ I) (hn : ∀ p ∈ news, p.1 ≠ I) (hnt : ∀ v, letOwnedTupleGo target (.ref I) v = pure ())
    (rest₀ : ItemsRest prog w A E h₀ env target body Q s [(I, "range_iterator")] [] (rangeItems a c n) m₀ news) :
    TurnsAt prog w A h₀ env target body Q E (.ref I) s := by
  have W : Walks prog w A I [I] [I] n (fun i v => i < n ∧ ∃ t, v = .int (a + (i : Int) * c) t) (fun i h => IsRangeIter h I (a + (i : Nat) * c) ((n : Int) - (i : Nat)) c) := (Walks.range hh I a c n).bound
  have key := ktu_core (prog := prog) (w := w) (A := A) (E := E) (Q := Q) (s := s) (env := env) (body := body) (target := target) (h₀ := h₀) (tk0 := s.toks) (keep := []) (ws := [(I, "range_iterator")]) (xs := rangeItems a c n) (hp := s.heap)
    (KTurns.ofWalks W fun i v s Q E st q => wpAny_of_eq (hnt v) q) (by simp [rangeItems]) (fun i v h hp => ?_) (fun i h st => ?_) (fun b hb => ?_) (fun b hb => by simpa using hb) (fun b hb => .inl (by simpa using hb)) ?_ (fun p hp hI' => ?_) ?_ F N trivial rest₀
  · exact key
  · obtain ⟨hi, t, rfl⟩ := hp
    exact ⟨.tok fun t => Value.int (a + (i : Int) * c) t, by simp [rangeItems, hi], t, rfl⟩
  · exact ⟨[(I, _)], ⟨⟨rfl, rfl⟩, trivial⟩, fun p hp => by rw [List.mem_singleton.mp hp]; exact st⟩
  · have hb' : b = I := by simpa using hb
    rw [hb']; exact ⟨List.mem_cons_self .., hI⟩
  · intro h; exact hL (List.mem_singleton.mp h)
  · exact hn p hp (List.mem_singleton.mp hI')
  · have e1 : a + ((0 : Nat) : Int) * c = a := by simp
    have e2 : (n : Int) - ((0 : Nat) : Int) = n := by simp
    rw [e1, e2]; exact hit
end

section
variable {prog : Program} {w : World} {A : Around} {E : Value → Shared → Prop} {s : Shared}
theorem sub_rit_reversed : isSubtype (.type "range_iterator") (.type "reversed") = pure false := by rw [isSubtype_type]; kernel_rfl
theorem call_range_reversed {r : Addr} {b : Nat} {t u v : Tok} {Q : Value → Shared → Prop} (hr : IsRange s.heap r 0 b 1 t u v) (hb : b < 2 ^ 60)
    (h : Q (.ref s.heap.objs.size) { s with heap := s.heap.push { cls := .type "range_iterator", data := .fields #[rawInt ((b : Int) - 1), rawInt b, rawInt (-1)] } }) : wpAny (model prog w) A (call (.builtin "range.__reversed__") [.ref r]) Q E s := by
  refine wpAny_call_entry PySem.F.slot_range_reversed ⟨_, hr, rfl⟩ PySem.F.entry_range_reversed ?_ (PySem.F.args_range_reversed_1 _)
  unfold Builtin.«range.__reversed__»
  refine wpAny_bind (wpAny_of_eq (a := Value.ref r) rfl ?_)
  have hf : wpAny (model prog w) A.in1 (Builtin.Range.rangeFields (.ref r)) (fun x s' => x = (0, (b : Int), 1) ∧ s' = s) (fun _ _ => False) s := by
    unfold Builtin.Range.rangeFields
    refine wpAny_bind (wpAny_field hr rfl rfl (wpAny_bind (wpAny_pure (wpAny_bind (wpAny_field hr rfl rfl (wpAny_bind (wpAny_pure (wpAny_bind (wpAny_field hr rfl rfl (wpAny_bind (wpAny_pure (wpAny_pure ⟨rfl, rfl⟩))))))))))))
  refine wpAny_bind (wpAny_mono hf (fun x s' hx => ?_) fun _ _ e => e.elim)
  obtain ⟨rfl, rfl⟩ := hx
  have hsz : Builtin.Range.rangeSize 0 (b : Int) 1 = b := by
    unfold Builtin.Range.rangeSize
    rw [if_pos (by decide)]
    split <;> lia
  have fl : ∀ x : Int, -(2 ^ 62) ≤ x → x ≤ 2 ^ 62 → Builtin.Range.rangeFitsLong x = true := fun x h1 h2 => by
    unfold Builtin.Range.rangeFitsLong
    simp only [Bool.and_eq_true, decide_eq_true_eq]
    lia
  simp only [hsz, fl 0 (by lia) (by lia), fl b (by lia) (by lia), fl 1 (by lia) (by lia), fl (-1) (by lia) (by lia), fl (0 - 1) (by lia) (by lia), Bool.and_self, Bool.not_true, Bool.false_eq_true, if_false, if_true]
  have e : (0 : Int) + ((b : Int) - 1) * 1 = (b : Int) - 1 := by lia
  rw [e]
  refine wpAny_bind (wpAny_newObj_type ?_)
  exact wpAny_pure ⟨_, rfl, h⟩
theorem code_reversed_range {r : Addr} {b : Nat} {t u v : Tok} {Q₁ : Value → Shared → Prop} (hr : IsRange s.heap r 0 b 1 t u v) (hb : b < 2 ^ 60)
    (h : Q₁ (.ref s.heap.objs.size) { s with heap := s.heap.push { cls := .type "range_iterator", data := .fields #[rawInt ((b : Int) - 1), rawInt b, rawInt (-1)] } }) :
    codeAny (model prog w) A (.call (.builtin "reversed.__new__") ⟨[.type "reversed", .ref r], []⟩) (wants Q₁ E) s := by
  have hT : s.TypeIs (.ref r) "range" := ⟨_, hr, rfl⟩
  refine codeAny_of_tree ?_
  show wpAny _ A.in1 (do checkBuiltinCall "reversed.__new__" ⟨[.type "reversed", .ref r], []⟩; again (.builtin "reversed.__new__" ⟨[.type "reversed", .ref r], []⟩)) _ _ s
  refine wpAny_bind (wpAny_of_eq (PySem.F.newCall_reversed_1 _) (wpAny_pure ⟨plainId_quiet PySem.F.plain_reversed_new _, codeAny_builtin PySem.F.entry_reversed_new ?_⟩))
  rw [Around.under_plainId PySem.F.plain_reversed_new _]
  unfold Builtin.«reversed.__new__»
  refine wpAny_bind (wpAny_of_eq (newClass_reversed _) ?_)
  dsimp only
  refine wpAny_bind (wpAny_of_eq (a := ()) rfl (wpAny_bind (wpAny_of_eq (a := ()) rfl ?_)))
  refine wpAny_bind (wpAny_specialOf hT PySem.F.slot_range_reversed.lookup (wpAny_bind (wpAny_of_eq (PySem.F.slot_range_reversed.bind _) ?_)))
  show wpAny _ _ (if (Value.builtin "range.__reversed__" == Value.none) = true then _ else _) _ _ _
  rw [if_neg (show ¬ ((Value.builtin "range.__reversed__" == Value.none) = true) from Bool.false_ne_true)]
  refine wpAny_bind (wpAny_rule (wpAny_bind (m := runValue (.call (.builtin "range.__reversed__") ⟨[.ref r], []⟩)) (show wpAny _ _ (call (.builtin "range.__reversed__") [.ref r]) _ _ _ from call_range_reversed hr hb ?_)))
  exact wpAny_pure h
theorem call_reversed_range {r : Addr} {b : Nat} {t u v : Tok} {h₀ : Heap} {L : Addr} {m : Str → Option Value} {news : Led} {Q : Value → Shared → Prop} (F : Fr h₀ L s.heap m) (N : News h₀ L s.heap news) (hr : IsRange s.heap r 0 b 1 t u v) (hb : b < 2 ^ 60)
    (h : ∀ (I : Addr) (h' : Heap), Fr h₀ L h' m → News h₀ L h' news → IsRangeIter h' I ((b : Int) - 1) b (-1) → h₀.get? I = none → L ≠ I → (∀ p ∈ news, p.1 ≠ I) → Q (.ref I) { s with heap := h' }) : wpAny (model prog w) A (call (.type "reversed") [.ref r]) Q E s := by
  refine callType_other (U := "range_iterator") (Q₁ := fun obj s₁ => obj = .ref s.heap.objs.size ∧ s₁ = { s with heap := s.heap.push { cls := .type "range_iterator", data := .fields #[rawInt ((b : Int) - 1), rawInt b, rawInt (-1)] } }) (by decide +kernel) PySem.F.create_reversed ⟨_, _, PySem.F.mro_reversed⟩ PySem.F.made_reversed sub_rit_reversed (PySem.F.typeCall_reversed_1 _) (code_reversed_range hr hb ⟨rfl, rfl⟩) ?_
  rintro obj s₁ ⟨rfl, rfl⟩
  refine ⟨⟨_, Heap.get?_push_size _ rfl, rfl⟩, h _ _ (F.push _) (fun p hp => ⟨Heap.get?_push_of_some _ (N p hp).1, (N p hp).2⟩) (Heap.get?_push_size _ rfl) (next_is_new F) ?_ fun p hp e => ?_⟩
  · intro e; exact absurd F.ns.lt (e ▸ Nat.lt_irrefl _)
  · exact absurd (Heap.lt_size (N p hp).1) (e ▸ Nat.lt_irrefl _)
theorem half_nat {a : Nat} {t u : Tok} {Q : Value → Shared → Prop} (h : ∀ tk, Q (.int ((a / 2 : Nat) : Int) tk) { s with toks := tk + 1 }) : wpAny (model prog w) A (binaryOp .FloorDiv (.int (a : Int) t) (.int 2 u)) Q E s := by
  refine floordiv_int (by decide) ?_
  have e : Int.fdiv (a : Int) 2 = ((a / 2 : Nat) : Int) := by
    rw [Int.fdiv_eq_ediv_of_nonneg _ (by decide)]; rfl
  rw [e]; exact h _
end

-- text: Hfy
noncomputable def hfy {κ : Type} [Inhabited κ] (lt : κ → κ → Bool) : Nat → List κ → List κ
  | 0, xs => xs
  | k + 1, xs => hfy lt k (sup lt xs k)
theorem bub_length {κ : Type} [Inhabited κ] {lt : κ → κ → Bool} : ∀ (k : Nat) (xs : List κ) (p : Nat), (bub lt k xs p).1.length = xs.length
  | 0, _, _ => rfl
  | k + 1, xs, p => by
    unfold bub
    split
    · rw [bub_length k]; simp
    · rfl
theorem sup_length {κ : Type} [Inhabited κ] {lt : κ → κ → Bool} (xs : List κ) (p : Nat) : (sup lt xs p).length = xs.length := by
  unfold sup; rw [sdown_length, List.length_set, bub_length]
theorem sdown_ok {κ : Type} [Inhabited κ] {O : Ordr κ} {lt : κ → κ → Bool} {rest : Led} {new : κ} {st : Nat} (hn : O.ok rest new) : ∀ (pos : Nat) (xs : List κ), (∀ y ∈ xs, O.ok rest y) → pos < xs.length → ∀ y ∈ sdown lt xs new st pos, O.ok rest y := by
  intro pos
  induction pos using Nat.strongRecOn with
  | ind pos ih =>
    intro xs hx hp
    unfold sdown
    split
    · split
      · exact ih _ (by lia) _ (ok_set hx (ok_get! hx (by lia))) (by simp; lia)
      · exact ok_set hx hn
    · exact ok_set hx hn
theorem bub_ok {κ : Type} [Inhabited κ] {O : Ordr κ} {lt : κ → κ → Bool} {rest : Led} : ∀ (k : Nat) (xs : List κ) (p : Nat), (∀ y ∈ xs, O.ok rest y) → p < xs.length → (∀ y ∈ (bub lt k xs p).1, O.ok rest y) ∧ (bub lt k xs p).2 < xs.length
  | 0, _, _, h, hp => ⟨h, hp⟩
  | k + 1, xs, p, h, hp => by
    unfold bub
    split
    · rename_i hc
      have hl := ch_lt (lt := lt) hc
      have := bub_ok (lt := lt) k (xs.set p xs[ch lt xs p]!) (ch lt xs p) (ok_set h (ok_get! h hl.1)) (by simpa using hl.1)
      simpa using this
    · exact ⟨h, hp⟩
theorem sup_ok {κ : Type} [Inhabited κ] {O : Ordr κ} {lt : κ → κ → Bool} {rest : Led} {xs : List κ} {p : Nat} (h : ∀ y ∈ xs, O.ok rest y) (hp : p < xs.length) : ∀ y ∈ sup lt xs p, O.ok rest y := by
  have hb := bub_ok (lt := lt) xs.length xs p h hp
  unfold sup
  exact sdown_ok (ok_get! h hp) _ _ (ok_set hb.1 (ok_get! h hp)) (by rw [List.length_set, bub_length]; exact hb.2)
theorem heapify_con {w : World} {mean : ExcName → Option Value} {mg mb : Str → Option Value} {κ : Type} [Inhabited κ] (O : Ordr κ) {l : Addr} {rest : Led} {xs : List κ} {n : Nat} (hrest : ∀ p ∈ rest, p.1 ≠ l)
   (hok : ∀ y ∈ xs, O.ok rest y) (hsz : xs.length < 900) :
    Con w mean mg mb 139 3 24 ((l, listOf (xs.map O.val).toArray n) :: rest) [.ref l] (fun r news' => r = .none ∧ news' = (l, listOf ((hfy O.lt (xs.length / 2) xs).map O.val).toArray n) :: rest) := by
  have mk3 : True := .intro
  unfold Con
  k_fill
  intro dp un gd cn cs a ccd cl outer A₀ base h₀ L m s Q E B F X N T hk hd hu hret
  refine wpAny_call ?_
  k_dflt cell_enter
  k_extra "m:steps"
  (rename Fr _ _ _ _ => Fn)
  k_dflt (refine For_turns Fn ?_)
  k_extra "m:steps"
  (rename Fr _ _ _ _ => Fn)
  (rename News _ _ _ _ => Nn)
  refine call_reversed_range Fn Nn (by assumption) (by lia) ?_
  clear Fn Nn
  intro I h' F' N' hit hI0 hLI hnI
  have hlI : l ≠ I := hnI _ (.head _)
  dsimp only
  refine wpAny_pyIter_rangeiter hit ?_
  k_dflt (refine iter_rangeTurns rfl F' N' hit hI0 hLI hnI (fun v => rfl) ?_)
  k_dflt (refine items_st (σ := List κ × Nat) (fun c => (l, listOf (c.1.map O.val).toArray n) :: rest) (fun _ => []) [Str.ofString "i"] (fun items c => items = rangeItems ((c.2 : Int) - 1) (-1) c.2 ∧ c.1.length = xs.length ∧ (∀ y ∈ c.1, O.ok rest y) ∧ c.2 ≤ xs.length / 2 ∧ hfy O.lt c.2 c.1 = hfy O.lt (xs.length / 2) xs) ?turn ?done _ (xs, xs.length / 2) _ ⟨rfl, rfl, hok, Nat.le_refl _, rfl⟩ (List.forall_mem_nil _) (fun _ _ _ => rfl))
  case turn => 
    clear F' N' hit
    intro a r
    refine elim2 ?_
    intro ys k u v h tk hP9 hv F9 o ho N9
    refine gen_P fun R9 hR9 => ?_
    obtain ⟨e1, e2, e3, e4, e5⟩ := hP9
    refine of_P hR9 (gen_body fun R8 hR8 => ?_)
    clear hR9 R9
    k_with "m:own" => ((fail_if_success fail_if_success clear mk3); ((refine of_Q hR8 ?_; (try dsimp only))))
    cases k with
    | zero => cases e1
    | succ k =>
      have ek : ((k + 1 : Nat) : Int) - 1 = k := by lia
      dsimp only [kstB] at *
      rw [rangeItems_succ, ek] at e1
      cases e1
      obtain ⟨t, rfl⟩ := hv
      k_extra "m:steps"
      (rename News _ _ _ _ => Nn)
      k_dflt (refine' Con.use2 ?k1 ?k2 ?k3 (news_perm (b := (l, listOf (ys.map O.val).toArray n) :: (I, o) :: rest) Nn ?kp) ?k5 ?k6 (siftup_con (pos := k) O ?c0 ?c1 ?c2 ?c3) ?k7 ?k8 ?_)
      (case k1 => k_asm); (case k2 => k_asm); (case k3 => k_asm); (case k5 => k_asm); (case k6 => exact rfl); (case k7 => ktr_room); (case k8 => ktr_units)
      (case kp => exact List.forall_mem_cons.mpr ⟨.tail _ (.head _), List.forall_mem_cons.mpr ⟨.head _, fun p hp => .tail _ (.tail _ hp)⟩⟩)
      (case c0 => exact List.forall_mem_cons.mpr ⟨hlI.symm, hrest⟩)
      (case c1 => exact fun y hy => O.mono (e3 y hy) fun p hp => .tail _ hp)
      (case c2 => lia)
      (case c3 => lia)
      intro h' tk' F' N'
      k_extra "m:steps"
      exact it_end (sup O.lt ys k, k) (by assumption) (by assumption) (List.forall_mem_cons.mpr ⟨.tail _ (.head _), List.forall_mem_cons.mpr ⟨.head _, fun p hp => .tail _ (.tail _ hp)⟩⟩)
        (fun p hp q hq => by rw [List.mem_singleton.mp hq]; rcases List.mem_cons.mp hp with rfl | hp; exact hlI; exact hnI _ (.tail _ hp)) (List.forall_mem_nil _) (List.forall_mem_nil _) (by k_extra "m:same")
        ⟨rfl, by rw [sup_length]; exact e2, fun y hy => sup_ok e3 (by lia) y hy, by dsimp only; lia, e5⟩
  case done =>
    clear F' N' hit
    refine elim2 ?_
    intro ys k u h tk hP9 F9 N9
    refine gen_P fun R9 hR9 => ?_
    obtain ⟨e1, e2, e3, e4, e5⟩ := hP9
    refine of_P hR9 ?_
    clear hR9 R9
    cases k with
    | succ k => dsimp only at e1; rw [rangeItems_succ] at e1; cases e1
    | zero =>
      k_extra "m:steps"
      exact hret _ _ _ _ (by assumption) (by assumption) ⟨rfl, by rw [← e5]; rfl⟩

-- text: Smax
noncomputable abbrev Ordr.gt {κ : Type} (O : Ordr κ) : κ → κ → Bool := fun a b => O.lt b a
theorem siftdown_max_con {w : World} {mean : ExcName → Option Value} {mg mb : Str → Option Value} {κ : Type} [Inhabited κ] (O : Ordr κ) {l : Addr} {rest : Led} {xs : List κ} {n : Nat} {st pos : Nat} {t1 t2 : Tok} (hrest : ∀ p ∈ rest, p.1 ≠ l) 
   (hok : ∀ x ∈ xs, O.ok rest x) (hlt : pos < xs.length) (hsz : xs.length < 1000) :
    Con w mean mg mb 174 1 8 ((l, listOf (xs.map O.val).toArray n) :: rest) [.ref l, .int st t1, .int pos t2] (fun r news' => r = .none ∧ news' = (l, listOf ((sdown O.gt xs xs[pos]! st pos).map O.val).toArray n) :: rest) := by
  have mk4 : True := .intro
  unfold Con
  k_fill
  intro dp un gd cn cs a ccd cl outer A₀ base h₀ L m s Q E B F X N T hk hd hu hret
  refine wpAny_call ?_
  k_dflt cell_enter
  k_extra "m:steps"
  (rename Fr _ _ _ _ => Fn); (rename News _ _ _ _ => Nn)
  have hnew := ok_get! hok hlt
  generalize xs[pos]! = new at *
  refine ksw_while (σ := List κ × Nat × Tok) (fun c => (l, listOf (c.1.map O.val).toArray n) :: rest) (fun c => [(Str.ofString "pos", .int c.2.1 c.2.2)]) (fun _ => True) [Str.ofString "parentpos", Str.ofString "parent", Str.ofString "pos"]
    (fun c => c.1.length = xs.length ∧ c.2.1 < xs.length ∧ (∀ x ∈ c.1, O.ok rest x) ∧ sdown O.gt c.1 new st c.2.1 = sdown O.gt xs new st pos) (fun c => c.2.1) (xs, pos, t2) Fn Nn trivial ?hk ⟨rfl, hlt, hok, rfl⟩ ?turn
  case hk => exact List.forall_mem_cons.mpr ⟨rfl, List.forall_mem_nil _⟩
  case turn =>
    clear Fn Nn
    refine elim3 ?_
    intro ys q tq u h9 tk9 _ hP9 F9 N9
    refine gen_P fun R9 hR9 => ?_
    obtain ⟨e1, e2, e3, e4⟩ := hP9
    refine of_P hR9 (gen_while fun R8 R7 hR8 hR7 => ?_)
    clear hR9 R9
    k_with "m:own" => ((fail_if_success fail_if_success clear mk4); ((refine of_Q hR8 ?_; (try dsimp only))))
    k_with "m:own" => ((fail_if_success fail_if_success clear mk4); ((refine of_Q1 hR7 ?_; (try dsimp only))))
    dsimp only [kstB] at *
    k_extra "m:steps"
    · exact ksw_end (ys.set q ys[(q - 1) / 2]!, (q - 1) / 2, _) (by assumption) (by assumption) (fun p hp => hp) trivial (List.forall_mem_cons.mpr ⟨rfl, List.forall_mem_nil _⟩) (by k_extra "m:same")
        ⟨by simpa using e1, by dsimp only; lia, ok_set e3 (ok_get! e3 (by lia)), (sdown_next (by lia) (by assumption)).trans e4⟩ (by dsimp only; lia)
    · exact hret _ _ _ _ (by assumption) (by assumption) ⟨rfl, by rw [← e4, sdown_stop (by simp_all)]⟩
    · exact hret _ _ _ _ (by assumption) (by assumption) ⟨rfl, by rw [← e4, sdown_done (by lia)]⟩
theorem siftup_max_con {w : World} {mean : ExcName → Option Value} {mg mb : Str → Option Value} {κ : Type} [Inhabited κ] (O : Ordr κ) {l : Addr} {rest : Led} {xs : List κ} {n : Nat} {pos : Nat} {t2 : Tok} (hrest : ∀ p ∈ rest, p.1 ≠ l) 
   (hok : ∀ x ∈ xs, O.ok rest x) (hlt : pos < xs.length) (hsz : xs.length < 1000) :
    Con w mean mg mb 181 2 16 ((l, listOf (xs.map O.val).toArray n) :: rest) [.ref l, .int pos t2] (fun r news' => r = .none ∧ news' = (l, listOf ((sup O.gt xs pos).map O.val).toArray n) :: rest) := by
  have mk5 : True := .intro
  unfold Con
  k_fill
  intro dp un gd cn cs a ccd cl outer A₀ base h₀ L m s Q E B F X N T hk hd hu hret
  refine wpAny_call ?_
  k_dflt cell_enter
  (rename Fr _ _ _ _ => Fe)
  refine gen_m Fe fun me hfe Fe' => ?_
  clear Fe
  have meH : me (Str.ofString "heap") = some (.ref l) := hfe _ _ rfl
  have meP : me (Str.ofString "pos") = some (.int (pos : Nat) t2) := hfe _ _ rfl
  k_with "m:own" => ((fail_if_success fail_if_success clear mk5); (((with_reducible show wpAny _ _ (eval (PySem.Expr.Name _ _) (envOf _ _ _ _ _)) _ _ _); k_dflt (refine' nameX_L ?F ?v ?_ ?a ?b; (case F => k_asm); (case v => first | with_reducible assumption | exact meH | exact meP); (case a => rfl); (case b => rfl); k_whole))))
  k_extra "m:steps"
  (rename Fr _ _ _ _ => Fn); (rename News _ _ _ _ => Nn)
  have hnew := ok_get! hok hlt
  generalize hgen : xs[pos]! = new at *
  refine gen_m Fn fun m0 hf0 Fn => ?_
  have m0H : m0 (Str.ofString "heap") = some (.ref l) := hf0 _ _ meH
  have m0E : m0 (Str.ofString "endpos") = some (.int (xs.length : Nat) tl') := hf0 _ _ rfl
  have m0N : m0 (Str.ofString "newitem") = some (O.val new) := hf0 _ _ rfl
  have m0S : m0 (Str.ofString "startpos") = some (.int (pos : Nat) t2) := hf0 _ _ rfl
  have m0P : m0 (Str.ofString "pos") = some (.int (pos : Nat) t2) := hf0 _ _ meP
  have m0C : m0 (Str.ofString "childpos") = some (.int ((2 * pos + 1 : Nat) : Int) tk') := hf0 _ _ rfl
  refine ksw_while (σ := List κ × Nat × Tok × Tok × Nat) (fun c => (l, listOf (c.1.map O.val).toArray n) :: rest) (fun c => [(Str.ofString "pos", .int c.2.1 c.2.2.1), (Str.ofString "childpos", .int ((2 * c.2.1 + 1 : Nat) : Int) c.2.2.2.1)]) (fun _ => True) [Str.ofString "rightpos", Str.ofString "childpos", Str.ofString "pos"]
    (fun c => c.1.length = xs.length ∧ c.2.1 < xs.length ∧ (∀ x ∈ c.1, O.ok rest x) ∧ xs.length ≤ c.2.2.2.2 + c.2.1 ∧ bub O.gt c.2.2.2.2 c.1 c.2.1 = bub O.gt xs.length xs pos) (fun c => xs.length - c.2.1) (xs, pos, t2, tk', xs.length) Fn Nn trivial ?hk ⟨rfl, hlt, hok, by dsimp only; lia, rfl⟩ ?turn
  case hk => exact List.forall_mem_cons.mpr ⟨m0P, List.forall_mem_cons.mpr ⟨m0C, List.forall_mem_nil _⟩⟩
  case turn =>
    clear Fn Nn
    refine elim5 ?_
    intro ys q tq tc k u h9 tk9 _ hP9 F9 N9
    refine gen_P fun R9 hR9 => ?_
    obtain ⟨e1, e2, e3, e5, e4⟩ := hP9
    refine of_P hR9 (gen_while fun R8 R7 hR8 hR7 => ?_)
    clear hR9 R9
    k_with "m:own" => ((fail_if_success fail_if_success clear mk5); ((refine of_Q hR8 ?_; (try dsimp only))))
    k_with "m:own" => ((fail_if_success fail_if_success clear mk5); ((refine of_Q1 hR7 ?_; (try dsimp only))))
    refine gen_m F9 fun m6 hf6 F6 => ?_
    clear F9
    have mH : m6 (Str.ofString "heap") = some (.ref l) := hf6 _ _ m0H
    have mE : m6 (Str.ofString "endpos") = some (.int (xs.length : Nat) tl') := hf6 _ _ m0E
    have mC : m6 (Str.ofString "childpos") = some (.int ((2 * q + 1 : Nat) : Int) tc) := hf6 _ _ rfl
    have mP : m6 (Str.ofString "pos") = some (.int (q : Nat) tq) := hf6 _ _ rfl
    have mN : m6 (Str.ofString "newitem") = some (O.val new) := hf6 _ _ m0N
    have mS : m6 (Str.ofString "startpos") = some (.int (pos : Nat) t2) := hf6 _ _ m0S
    have mo : ∀ z, [Str.ofString "rightpos", Str.ofString "childpos", Str.ofString "pos"].contains z = false → m6 z = m0 z := fun z hz => hf6 _ _ (same_ite (ne_c rfl hz) (same_ite (ne_c rfl hz) (same_kst hz)))
    k_with "m:own" => ((fail_if_success fail_if_success clear mk5); (((with_reducible show wpAny _ _ (eval (PySem.Expr.Name _ _) (envOf _ _ _ _ _)) _ _ _); k_dflt (refine' nameX_L ?F ?v ?_ ?a ?b; (case F => k_asm); (case v => first | with_reducible assumption | exact mH | exact mE | exact mC | exact mP); (case a => rfl); (case b => rfl); k_whole))))
    k_with "m:stop" => ((fail_if_success fail_if_success clear mk5); ((with_reducible show wpAny _ _ (exec (Stmt.If _ _ _ _) _) _ _ _)))
    k_extra "m:steps"
    · (rename Fr _ _ _ _ => Fn); (rename News _ _ _ _ => Nn)
      refine cut_int (x := Str.ofString "childpos") Fn Nn (fun c => c = ch O.gt ys q) ?_ fun c tv h5 tk5 m5 F5 N5 mc m5o hc => ?_
      · refine wpAny_If ?_
        k_extra "m:steps"
        · exact int_end (by assumption) (by assumption) (by exact mC) (fun _ _ => rfl) (ch_left (by assumption)).symm
        · exact int_end (by assumption) (by assumption) (if_pos rfl) (fun _ h => if_neg h) (ch_right (by lia) (by assumption)).symm
        · exact int_end (by assumption) (by assumption) (by exact mC) (fun _ _ => rfl) (ch_short (by lia)).symm
      · have hq2 : 2 * q + 1 < ys.length := by lia
        have hcl := ch_lt (lt := O.gt) hq2
        obtain ⟨k', hk', eb⟩ := bub_next hq2 (by lia) e4
        rw [← hc] at hcl hk' eb
        clear Fn Nn
        have mH : m5 (Str.ofString "heap") = some (.ref l) := (m5o _ (by decide)).trans mH
        have mP : m5 (Str.ofString "pos") = some (.int (q : Nat) tq) := (m5o _ (by decide)).trans mP
        dsimp only
        k_extra "m:steps"
        exact ksw_end (ys.set q ys[c]!, c, _, _, k') (by assumption) (by assumption) (fun p hp => hp) trivial (List.forall_mem_cons.mpr ⟨rfl, List.forall_mem_cons.mpr ⟨rfl, List.forall_mem_nil _⟩⟩) (fun z hp hz => 
            same_ite (ne_c rfl hz) (same_ite (ne_c rfl hz) ((m5o _ (ne_c rfl hz)).trans (same_ite (ne_c rfl hz) (mo z hz)))))
          ⟨by simpa using e1, by dsimp only; exact e1 ▸ hcl.1, ok_set e3 (ok_get! e3 hcl.1), by dsimp only; exact e1 ▸ hk', eb⟩ (by dsimp only; exact meas_lt e2 hcl.2)
    · k_dflt (refine' Con.use2 ?k1 ?k2 ?k3 ?k4 ?k5 ?k6 (siftdown_max_con (pos := q) O hrest ?c1 ?c2 ?c3) ?k7 ?k8 ?_)
      (case k1 => k_asm)
      (case k2 => k_asm)
      (case k3 => k_asm)
      (case k4 => k_asm)
      (case k5 => k_asm)
      (case k6 => exact rfl)
      (case k7 => ktr_room)
      (case k8 => ktr_units)
      (case c1 => exact ok_set e3 hnew)
      (case c2 => simp; lia)
      (case c3 => simp; lia)
      intro h' tk' F' N'
      k_extra "m:steps"
      rw [bub_done (by lia)] at e4
      refine hret _ _ _ _ (by assumption) (by assumption) ⟨rfl, ?_⟩
      unfold sup
      rw [← e4, hgen]
      have : (ys.set q new)[q]! = new := by simp [e1, e2]
      rw [this]

-- text: Hrep
theorem heapreplace_con {w : World} {mean : ExcName → Option Value} {mg mb : Str → Option Value} {κ : Type} [Inhabited κ] (O : Ordr κ) {l : Addr} {rest : Led} {xs : List κ} {x : κ} {n : Nat} (hrest : ∀ p ∈ rest, p.1 ≠ l)
   (hok : ∀ y ∈ xs, O.ok rest y) (hx : O.ok rest x) (hne : 0 < xs.length) (hsz : xs.length < 900) :
    Con w mean mg mb 132 3 24 ((l, listOf (xs.map O.val).toArray n) :: rest) [.ref l, O.val x] (fun r news' => r = O.val xs[0]! ∧ news' = (l, listOf ((sup O.lt (xs.set 0 x) 0).map O.val).toArray n) :: rest) := by
  unfold Con
  k_fill
  intro dp un gd cn cs a ccd cl outer A₀ base h₀ L m s Q E B F X N T hk hd hu hret
  refine wpAny_call ?_
  k_dflt cell_enter
  k_extra "m:steps"
  k_dflt (refine' Con.use2 ?k1 ?k2 ?k3 ?k4 ?k5 ?k6 (siftup_con (pos := 0) O hrest ?c1 ?c2 ?c3) ?k7 ?k8 ?_)
  k_extra "m:use"
  (case c1 => exact ok_set hok hx)
  (case c2 => simpa using hne)
  (case c3 => simp; lia)
  intro h' tk' F' N'
  k_extra "m:steps"
  exact hret _ _ _ _ (by assumption) (by assumption) ⟨rfl, rfl⟩
theorem heapreplace_max_con {w : World} {mean : ExcName → Option Value} {mg mb : Str → Option Value} {κ : Type} [Inhabited κ] (O : Ordr κ) {l : Addr} {rest : Led} {xs : List κ} {x : κ} {n : Nat} (hrest : ∀ p ∈ rest, p.1 ≠ l)
   (hok : ∀ y ∈ xs, O.ok rest y) (hx : O.ok rest x) (hne : 0 < xs.length) (hsz : xs.length < 900) :
    Con w mean mg mb 146 3 24 ((l, listOf (xs.map O.val).toArray n) :: rest) [.ref l, O.val x] (fun r news' => r = O.val xs[0]! ∧ news' = (l, listOf ((sup O.gt (xs.set 0 x) 0).map O.val).toArray n) :: rest) := by
  unfold Con
  k_fill
  intro dp un gd cn cs a ccd cl outer A₀ base h₀ L m s Q E B F X N T hk hd hu hret
  refine wpAny_call ?_
  k_dflt cell_enter
  k_extra "m:steps"
  k_dflt (refine' Con.use2 ?k1 ?k2 ?k3 ?k4 ?k5 ?k6 (siftup_max_con (pos := 0) O hrest ?c1 ?c2 ?c3) ?k7 ?k8 ?_)
  k_extra "m:use"
  (case c1 => exact ok_set hok hx)
  (case c2 => simpa using hne)
  (case c3 => simp; lia)
  intro h' tk' F' N'
  k_extra "m:steps"
  exact hret _ _ _ _ (by assumption) (by assumption) ⟨rfl, rfl⟩
theorem heapify_max_con {w : World} {mean : ExcName → Option Value} {mg mb : Str → Option Value} {κ : Type} [Inhabited κ] (O : Ordr κ) {l : Addr} {rest : Led} {xs : List κ} {n : Nat} (hrest : ∀ p ∈ rest, p.1 ≠ l)
   (hok : ∀ y ∈ xs, O.ok rest y) (hsz : xs.length < 900) :
    Con w mean mg mb 153 3 24 ((l, listOf (xs.map O.val).toArray n) :: rest) [.ref l] (fun r news' => r = .none ∧ news' = (l, listOf ((hfy O.gt (xs.length / 2) xs).map O.val).toArray n) :: rest) := by
  have mk6 : True := .intro
  unfold Con
  k_fill
  intro dp un gd cn cs a ccd cl outer A₀ base h₀ L m s Q E B F X N T hk hd hu hret
  refine wpAny_call ?_
  k_dflt cell_enter
  k_extra "m:steps"
  (rename Fr _ _ _ _ => Fn)
  k_dflt (refine For_turns Fn ?_)
  k_extra "m:steps"
  (rename Fr _ _ _ _ => Fn)
  (rename News _ _ _ _ => Nn)
  refine call_reversed_range Fn Nn (by assumption) (by lia) ?_
  clear Fn Nn
  intro I h' F' N' hit hI0 hLI hnI
  have hlI : l ≠ I := hnI _ (.head _)
  dsimp only
  refine wpAny_pyIter_rangeiter hit ?_
  k_dflt (refine iter_rangeTurns rfl F' N' hit hI0 hLI hnI (fun v => rfl) ?_)
  k_dflt (refine items_st (σ := List κ × Nat) (fun c => (l, listOf (c.1.map O.val).toArray n) :: rest) (fun _ => []) [Str.ofString "i"] (fun items c => items = rangeItems ((c.2 : Int) - 1) (-1) c.2 ∧ c.1.length = xs.length ∧ (∀ y ∈ c.1, O.ok rest y) ∧ c.2 ≤ xs.length / 2 ∧ hfy O.gt c.2 c.1 = hfy O.gt (xs.length / 2) xs) ?turn ?done _ (xs, xs.length / 2) _ ⟨rfl, rfl, hok, Nat.le_refl _, rfl⟩ (List.forall_mem_nil _) (fun _ _ _ => rfl))
  case turn => 
    clear F' N' hit
    intro a r
    refine elim2 ?_
    intro ys k u v h tk hP9 hv F9 o ho N9
    refine gen_P fun R9 hR9 => ?_
    obtain ⟨e1, e2, e3, e4, e5⟩ := hP9
    refine of_P hR9 (gen_body fun R8 hR8 => ?_)
    clear hR9 R9
    k_with "m:own" => ((fail_if_success fail_if_success clear mk6); ((refine of_Q hR8 ?_; (try dsimp only))))
    cases k with
    | zero => cases e1
    | succ k =>
      have ek : ((k + 1 : Nat) : Int) - 1 = k := by lia
      dsimp only [kstB] at *
      rw [rangeItems_succ, ek] at e1
      cases e1
      obtain ⟨t, rfl⟩ := hv
      k_extra "m:steps"
      (rename News _ _ _ _ => Nn)
      k_dflt (refine' Con.use2 ?k1 ?k2 ?k3 (news_perm (b := (l, listOf (ys.map O.val).toArray n) :: (I, o) :: rest) Nn ?kp) ?k5 ?k6 (siftup_max_con (pos := k) O ?c0 ?c1 ?c2 ?c3) ?k7 ?k8 ?_)
      (case k1 => k_asm); (case k2 => k_asm); (case k3 => k_asm); (case k5 => k_asm); (case k6 => exact rfl); (case k7 => ktr_room); (case k8 => ktr_units)
      (case kp => exact List.forall_mem_cons.mpr ⟨.tail _ (.head _), List.forall_mem_cons.mpr ⟨.head _, fun p hp => .tail _ (.tail _ hp)⟩⟩)
      (case c0 => exact List.forall_mem_cons.mpr ⟨hlI.symm, hrest⟩)
      (case c1 => exact fun y hy => O.mono (e3 y hy) fun p hp => .tail _ hp)
      (case c2 => lia)
      (case c3 => lia)
      intro h' tk' F' N'
      k_extra "m:steps"
      exact it_end (sup O.gt ys k, k) (by assumption) (by assumption) (List.forall_mem_cons.mpr ⟨.tail _ (.head _), List.forall_mem_cons.mpr ⟨.head _, fun p hp => .tail _ (.tail _ hp)⟩⟩)
        (fun p hp q hq => by rw [List.mem_singleton.mp hq]; rcases List.mem_cons.mp hp with rfl | hp; exact hlI; exact hnI _ (.tail _ hp)) (List.forall_mem_nil _) (List.forall_mem_nil _) (by k_extra "m:same")
        ⟨rfl, by rw [sup_length]; exact e2, fun y hy => sup_ok e3 (by lia) y hy, by dsimp only; lia, e5⟩
  case done =>
    clear F' N' hit
    refine elim2 ?_
    intro ys k u h tk hP9 F9 N9
    refine gen_P fun R9 hR9 => ?_
    obtain ⟨e1, e2, e3, e4, e5⟩ := hP9
    refine of_P hR9 ?_
    clear hR9 R9
    cases k with
    | succ k => dsimp only at e1; rw [rangeItems_succ] at e1; cases e1
    | zero =>
      k_extra "m:steps"
      exact hret _ _ _ _ (by assumption) (by assumption) ⟨rfl, by rw [← e5]; rfl⟩

-- text: Ord
/-- the order of texts -/
noncomputable def sless (a b : Str) : Bool := decide (a.cps.toList < b.cps.toList)
noncomputable def strO : Ordr (Str × Tok) where
  val := fun x => .str x.1 x.2
  ok := fun _ _ => True
  lt := fun x y => sless x.1 y.1
  cmp := fun _ _ _ _ h => lt_str (h _)
  mono := fun _ _ => trivial
noncomputable abbrev Tup := Addr × (Str × Tok) × (Int × Tok) × (Str × Tok)
noncomputable def Tup.vals (x : Tup) : List Value := [.str x.2.1.1 x.2.1.2, .int x.2.2.1.1 x.2.2.1.2, .str x.2.2.2.1 x.2.2.2.2]
noncomputable def Tup.obj (x : Tup) : Obj := { cls := .type "tuple", data := .seq x.vals.toArray }
noncomputable def Tup.less (x y : Tup) : Bool :=
  if x.2.1.1 = y.2.1.1 then (if x.2.2.1.1 = y.2.2.1.1 then (if x.2.2.2.1 = y.2.2.2.1 then false else sless x.2.2.2.1 y.2.2.2.1) else decide (x.2.2.1.1 < y.2.2.1.1)) else sless x.2.1.1 y.2.1.1
section
variable {prog : Program} {w : World} {A : Around} {E : Value → Shared → Prop} {s : Shared}
theorem tup_lt_tree {x y : Tup} {P : PySem.Fin → Shared → Prop} (hx : s.heap.get? x.1 = some x.obj) (hy : s.heap.get? y.1 = some y.obj) (h : ∀ tk, P (.done (.ret (.bool (x.less y)))) { s with toks := tk }) :
    wpAny (model prog w) A (Builtin.«tuple.__lt__» ⟨[.ref x.1, .ref y.1], []⟩) P E s := by
  have hTb : s.TypeIs (.ref y.1) "tuple" := ⟨_, hy, rfl⟩
  show wpAny _ _ (isInstance (.ref y.1) (.type "tuple") >>= _) _ _ s
  refine wpAny_bind (wpAny_isInstance hTb isSubtype_tuple_tuple ?_)
  simp only [Bool.not_true, Bool.false_eq_true, if_false]
  refine wpAny_bind (wpAny_tupleItemsOf hx rfl ?_)
  refine wpAny_bind (wpAny_tupleItemsOf hy rfl ?_)
  obtain ⟨a, ⟨k, tk⟩, ⟨i, ti⟩, e, te⟩ := x
  obtain ⟨a', ⟨k', tk'⟩, ⟨i', ti'⟩, e', te'⟩ := y
  refine wpAny_bind ?_
  simp only [Tup.vals, List.zip_cons_cons, List.zip_nil_left, List.forIn_cons, List.forIn_nil]
  have ls : ∀ (u v : Str) (t1 t2 : Tok) (Q : Value → Shared → Prop), Q (.bool (sless u v)) s → wpAny (model prog w) A (richCompare .Lt (.str u t1) (.str v t2)) Q E s := fun u v t1 t2 Q hq => (lt_str hq : wpAny (model prog w) A (compareOp .Lt (.str u t1) (.str v t2)) Q E s)
  have li : ∀ (u v : Int) (t1 t2 : Tok) (Q : Value → Shared → Prop), Q (.bool (decide (u < v))) s → wpAny (model prog w) A (richCompare .Lt (.int u t1) (.int v t2)) Q E s := fun u v t1 t2 Q hq => (lt_int hq : wpAny (model prog w) A (compareOp .Lt (.int u t1) (.int v t2)) Q E s)
  have h' := h s.toks
  refine wpAny_bind (wpAny_bind (wpAny_eqBool_str ?_))
  by_cases e1 : k = k'
  · simp only [e1, decide_true, Bool.not_true, Bool.false_eq_true, if_false]
    refine wpAny_pure (wpAny_bind (wpAny_bind (wpAny_eqBool_int ?_)))
    by_cases e2 : i = i'
    · simp only [e2, beq_self_eq_true, Bool.not_true, Bool.false_eq_true, if_false]
      refine wpAny_pure (wpAny_bind (wpAny_bind (wpAny_eqBool_str ?_)))
      by_cases e3 : e = e'
      · simp only [e3, decide_true, Bool.not_true, Bool.false_eq_true, if_false]
        simp only [Tup.less, e1, e2, e3, if_true] at h'
        exact wpAny_pure (wpAny_pure (wpAny_pure h'))
      · simp only [e3, decide_false, Bool.not_false, if_true]
        simp only [Tup.less, e1, e2, e3, if_true, if_false] at h'
        exact wpAny_bind (wpAny_rule (wpAny_bind (ls _ _ _ _ _ (wpAny_bind (wpAny_pure (wpAny_pure (wpAny_pure (wpAny_pure h'))))))))
    · have b2 : (i == i') = false := by simpa using e2
      simp only [b2, Bool.not_false, if_true]
      simp only [Tup.less, e1, e2, if_true, if_false] at h'
      exact wpAny_bind (wpAny_rule (wpAny_bind (li _ _ _ _ _ (wpAny_bind (wpAny_pure (wpAny_pure (wpAny_pure (wpAny_pure h'))))))))
  · simp only [e1, decide_false, Bool.not_false, if_true]
    simp only [Tup.less, e1, if_false] at h'
    exact wpAny_bind (wpAny_rule (wpAny_bind (ls _ _ _ _ _ (wpAny_bind (wpAny_pure (wpAny_pure (wpAny_pure (wpAny_pure h'))))))))
theorem tup_lt {x y : Tup} {Q : Value → Shared → Prop} (hx : s.heap.get? x.1 = some x.obj) (hy : s.heap.get? y.1 = some y.obj) (hu : A.units < cLine) (h : ∀ tk, Q (.bool (x.less y)) { s with toks := tk }) :
    wpAny (model prog w) A (compareOp .Lt (.ref x.1) (.ref y.1)) Q E s := by
  have hTa : s.TypeIs (.ref x.1) "tuple" := ⟨_, hx, rfl⟩
  have hTb : s.TypeIs (.ref y.1) "tuple" := ⟨_, hy, rfl⟩
  refine cmp_ofLt ?_
  exact wpAny_richCompare_same_room (op := .Lt) hTa hTb PySem.F.slot_tuple_lt (wpAny_call_entry PySem.F.slot_tuple_lt hTa PySem.F.entry_tuple_lt (tup_lt_tree hx hy fun tk => ⟨_, rfl, (fun e => nomatch e), h tk⟩) (PySem.F.args_tuple_lt_2 _ _)) hu
end
noncomputable def tupO : Ordr Tup where
  val := fun x => .ref x.1
  ok := fun news x => (x.1, x.obj) ∈ news
  lt := Tup.less
  cmp := fun N hx hy hu h => tup_lt (N _ hx).1 (N _ hy).1 (by lia) h
  mono := fun h hs => hs _ h

-- text: Lists
theorem str_ex {x y : Str} {t : Tok} (h : x = y) : ∃ t', Value.str x t = Value.str y t' := ⟨t, by rw [h]⟩
section
variable {prog : Program} {w : World} {A : Around} {E : Value → Shared → Prop} {s : Shared} {h₀ : Heap} {L D : Addr} {m : Str → Option Value} {news news' : Led} {n : Nat} {k : Int} {t u : Tok} {κ : Type} {val : κ → Value} {xs : List κ} {Q : Value → Shared → Prop}
theorem pick_upto (xs : List κ) (j : Nat) : (slicePick (xs.map val).toArray none (some (j : Int)) none).toList = (xs.take j).map val := by
  have e : sliceBounds none (some (j : Int)) none (xs.map val).toArray.size = (((0 : Nat) : Int), ((min j xs.length : Nat) : Int), 1) := by
    simp only [sliceBounds, Option.getD_none, show (1 : Int) > 0 by decide, if_true, if_neg (show ¬ ((j : Int) < 0) by lia), List.size_toArray, List.length_map]
    congr 1
    congr 1
    lia
  rw [kmk_pick_nat _ e]
  simp only [List.drop_zero, Nat.sub_zero, List.map_take]
  rw [← List.length_map (f := val), kmk_take_min]
theorem pick_from (xs : List κ) (j : Nat) : (slicePick (xs.map val).toArray (some (j : Int)) none none).toList = (xs.drop j).map val := by
  have e : sliceBounds (some (j : Int)) none none (xs.map val).toArray.size = (((min j xs.length : Nat) : Int), ((xs.length : Nat) : Int), 1) := by
    simp only [sliceBounds, Option.getD_none, show (1 : Int) > 0 by decide, if_true, if_neg (show ¬ ((j : Int) < 0) by lia), List.size_toArray, List.length_map]
    congr 1
    lia
  rw [kmk_pick_nat _ e]
  simp only [List.map_drop]
  rw [← List.length_map (f := val), kmk_drop_min, List.take_of_length_le]
  simp; lia
theorem pick_init (xs : List κ) : (slicePick (xs.map val).toArray none (some (-1)) none).toList = xs.dropLast.map val := by
  have e : sliceBounds none (some (-1)) none (xs.map val).toArray.size = (((0 : Nat) : Int), ((xs.length - 1 : Nat) : Int), 1) := by
    simp only [sliceBounds, Option.getD_none, show (1 : Int) > 0 by decide, if_true, List.size_toArray, List.length_map]
    congr 1
    congr 1
    split <;> lia
  rw [kmk_pick_nat _ e]
  simp only [List.drop_zero, Nat.sub_zero, List.dropLast_eq_take, List.map_take]
theorem slice_led {value slice : PySem.Expr} {lo hi : Option Int} {vl vu : Value} {ys : List κ} (F : Fr h₀ L s.heap m) (N : News h₀ L s.heap news) (hm : (D, listOf (xs.map val).toArray n) ∈ news) (pl : IsPart vl lo) (pu : IsPart vu hi)
    (e : (slicePick (xs.map val).toArray lo hi none).toList = ys.map val)
    (h : ∀ D' h', Fr h₀ L h' m → News h₀ L h' ((D', listOf (ys.map val).toArray 0) :: news) → (∀ p ∈ news, p.1 < D') → Q (.ref D') { s with heap := h' })
    (hs : subscripted slice false (.ref D) (.ref s.heap.objs.size) = operate [.ref s.heap.objs.size, .ref D] (getItem (.ref D) (.ref s.heap.objs.size))) (ht : ∀ r, letTemporaryGo value (.ref D) r = pure ()) (hz : xs.length ≤ sizeLine) :
    wpAny (model prog w) A (subscriptTail value slice (.ref D) (.ref s.heap.objs.size)) Q E { s with heap := s.heap.push { cls := .type "slice", data := .fields #[vl, vu, .none] } } :=
  kmk_slice_lit F N (PySem.IsL.isList (n := n) (N _ hm).1) pl pu e h hs ht (by simpa using hz)
theorem item_last {ι : Inhabited κ} {value slice : PySem.Expr} (N : News h₀ L s.heap news) (hm : (D, listOf (xs.map val).toArray n) ∈ news) (h1 : 0 < xs.length) (hfit : xs.length < 2 ^ 62) (h : Q (val xs[xs.length - 1]!) s)
    (hs : subscripted slice false (.ref D) (.int (-1) u) = operate [.ref D, .int (-1) u] (getItem (.ref D) (.int (-1) u)) := by with_unfolding_all rfl) :
    wpAny (model prog w) A (subscriptTail value slice (.ref D) (.int (-1) u)) Q E s := by
  have hl := PySem.IsL.isList (n := n) (N _ hm).1
  have hk : xs.length - 1 < xs.length := by lia
  refine tail_any hl.typeIs slot_list_getitem.lookup (wpAny_getItem_list_neg hl (by decide) (by simp; lia) (by decide) (x := val xs[xs.length - 1]!) ?_ h) hs
  have e : (-1 + ((xs.map val).toArray.size : Int)).toNat = xs.length - 1 := by simp; lia
  rw [e]
  simp [hk]
theorem item_lastS {l : List (Str × Tok)} {value slice : PySem.Expr} (N : News h₀ L s.heap news) (hm : (D, listOf (l.map strO.val).toArray n) ∈ news) (h1 : 0 < l.length) (hfit : l.length < 2 ^ 62) (h : Q (.str (l[l.length - 1]!).1 (l[l.length - 1]!).2) s)
    (hs : subscripted slice false (.ref D) (.int (-1) u) = operate [.ref D, .int (-1) u] (getItem (.ref D) (.int (-1) u)) := by with_unfolding_all rfl) :
    wpAny (model prog w) A (subscriptTail value slice (.ref D) (.int (-1) u)) Q E s := item_last N hm h1 hfit h hs
theorem item_ledS {l : List (Str × Tok)} {j : Nat} {value slice : PySem.Expr} (N : News h₀ L s.heap news) (hm : (D, listOf (l.map strO.val).toArray n) ∈ news) (h1 : j < l.length) (hfit : l.length < 2 ^ 62) (h : Q (.str (l[j]!).1 (l[j]!).2) s)
    (hs : subscripted slice false (.ref D) (.int j u) = operate [.ref D, .int j u] (getItem (.ref D) (.int j u)) := by with_unfolding_all rfl) :
    wpAny (model prog w) A (subscriptTail value slice (.ref D) (.int j u)) Q E s := item_ledN N hm h1 hfit h hs
theorem split_led {x y : Str} (hF : Fr h₀ L s.heap m) (hN : News h₀ L s.heap news) (hy : (y.length == 0) = false)
    (h : ∀ D (l : List (Str × Tok)) h' k, l.map (·.1) = Txt.split x y → 0 < l.length → (l.map (·.1.length)).sum + l.length ≤ x.length + 1 → Fr h₀ L h' m → News h₀ L h' ((D, listOf (l.map strO.val).toArray 0) :: news) → (∀ p ∈ news, p.1 < D) → Q (.ref D) { s with heap := h', toks := k }) (hsz : x.length + 2 ≤ sizeLine) :
    wpAny (model prog w) A (call (.builtin "str.split") [.str x t, .str y u]) Q E s :=
  KSpl.split1 hF hN hy (fun D l h' k e _ F N l1 => h D l h' k e (len_of_split e) (by
    have hw := split_weight x y (by cases hl : y.length with | zero => rw [hl] at hy; cases hy | succ n => lia)
    rw [← e, List.length_map, List.map_map] at hw
    simpa [Function.comp_def] using hw) F N l1) hsz
theorem last_len {l : List (Str × Tok)} {x y : Str} (e : l.map (·.1) = Txt.split x y) (hp : 0 < l.length) : (l[l.length - 1]!).1.length ≤ x.length := by
  have h1 : l[l.length - 1]! ∈ l := get!_mem (by lia)
  exact part_short (e ▸ List.mem_map.mpr ⟨_, h1, rfl⟩)
theorem add_strs {D₁ D₂ : Addr} {l₁ l₂ : List (Str × Tok)} {n₁ n₂ : Nat} (F : Fr h₀ L s.heap m) (N : News h₀ L s.heap news) (h1 : (D₁, listOf (l₁.map strO.val).toArray n₁) ∈ news) (h2 : (D₂, listOf (l₂.map strO.val).toArray n₂) ∈ news) (hz : l₁.length + l₂.length ≤ sizeLine)
    (h : ∀ D h', Fr h₀ L h' m → News h₀ L h' ((D, listOf ((l₁ ++ l₂).map strO.val).toArray 0) :: news) → (∀ p ∈ news, p.1 < D) → Q (.ref D) { s with heap := h' }) : wpAny (model prog w) A (binaryOp .Add (.ref D₁) (.ref D₂)) Q E s := by
  refine add_arrays F N (PySem.IsL.isList (n := n₁) (N _ h1).1) (PySem.IsL.isList (n := n₂) (N _ h2).1) (fun h' F' N' => h _ h' F' ?_ fun p hp => Heap.lt_size (N p hp).1) (by simpa using hz)
  rw [List.map_append]
  exact N'
noncomputable def isTxt (x : Str) : Value → Bool
  | .str y _ => y == x
  | _ => false
theorem index_strs {l : List (Str × Tok)} {x : Str} (N : News h₀ L s.heap news) (hm : (D, listOf (l.map strO.val).toArray n) ∈ news) (hx : x ∈ l.map (·.1)) (hz : l.length < 1000)
    (h : ∀ tk, Q (.int ((l.map (·.1)).idxOf x : Nat) tk) { s with toks := tk + 1 }) : wpAny (model prog w) A (call (.builtin "list.index") [.ref D, .str x t]) Q E s := by
  have ho := (N _ hm).1
  have hj : (l.map (·.1)).idxOf x < (l.map (·.1)).length := List.idxOf_lt_length_iff.mpr hx
  have hj' : (l.map (·.1)).idxOf x < l.length := by simpa using hj
  have hat : ∀ i (hi : i < (l.map strO.val).toArray.size), isTxt x (l.map strO.val).toArray[i] = ((l.map (·.1))[i]'(by simpa using hi) == x) := fun i hi => by simp [strO, isTxt]
  refine call_meets PySem.F.slot_list_index ⟨_, ho, rfl⟩ PySem.F.entry_list_index (PySem.F.args_list_index_2 _ _)
    (PySem.MeetsSeq.list_index D (l.map strO.val).toArray n (.str x t) (isTxt x) (fun y hy => ?_) ((l.map (·.1)).idxOf x) (by simpa using hj') (by lia) ?_ ?_) ⟨ho, h _⟩
  · obtain ⟨a, _, rfl⟩ := List.mem_map.mp (by simpa using hy : y ∈ l.map strO.val)
    exact fun _ _ _ _ _ _ h => eqBool_str h
  · rw [hat]; simpa using List.getElem_idxOf hj
  · intro m hm hlt
    rw [hat]
    simpa using List.not_of_lt_findIdx hlt
theorem append_strs {l : List (Str × Tok)} {x : Str} (F : Fr h₀ L s.heap m) (N : News h₀ L s.heap news) (U : Upd D (listOf (l.map strO.val).toArray n) (listOf ((l ++ [(x, t)]).map strO.val).toArray (n + 1)) news news') (hz : l.length ≤ sizeLine)
    (h : ∀ h', Fr h₀ L h' m → News h₀ L h' news' → Q .none { s with heap := h' }) : wpAny (model prog w) A (call (.builtin "list.append") [.ref D, .str x t]) Q E s := append_led (val := strO.val) (y := (x, t)) F N U hz h
theorem strs_are : ∀ l : List (Str × Tok), StrsAre (l.map strO.val) (l.map (·.1)) := strsAre_of_values
theorem sum_dropLast (l : List (Str × Tok)) : (l.dropLast.map (·.1.length)).sum ≤ (l.map (·.1.length)).sum := by
  rcases List.eq_nil_or_concat l with rfl | ⟨a, b, rfl⟩
  · simp
  · simp
theorem join_led {x : Str} {l : List (Str × Tok)} (N : News h₀ L s.heap news) (hm : (D, listOf (l.map strO.val).toArray n) ∈ news) (hok : (l.map (·.1.length)).sum + l.length * x.length ≤ 16777216)
    (h : ∀ t' k, Q (.str (Txt.join x (l.map (·.1))) t') { s with toks := k }) : wpAny (model prog w) A (call (.builtin "str.join") [.str x t, .ref D]) Q E s :=
  join_list (PySem.IsL.isList (n := n) (N _ hm).1) (strs_are l) (by simpa [List.map_map, Function.comp_def] using hok) h
end

-- text: Comps
section
variable {prog : Program} {w : World} {A : Around} {E : Value → Shared → Prop} {s : Shared} {h₀ : Heap} {L : Addr} {m : Str → Option Value} {env : Env}
/-- a comprehension by an invariant over the turn's number, what is made so far, and the ledger -/
theorem comp_inv {elt : Expr} {x : Str} {scope : Scope} {cl : List (Str × Addr)} {S : Led → Prop} {P : Nat → Value → Prop} {Fin : List Value → Led → Prop} (n : Nat) (J : Nat → List Value → Led → Prop)
    (fin : ∀ ys news, J n ys news → Fin ys news)
    (turn : ∀ i ys news, i < n → J i ys news → ∀ v I oI C oC D m₂ h tk (E' : Value → Shared → Prop), P i v → LCg.NsObj oC m₂ → m₂ x = some v → Fr h₀ L h m → News h₀ L h ((I, oI) :: (C, oC) :: (D, LCg.lst ys) :: news) → LCg.Off3 I C D news → ((@Ne Nat I C) ∧ (@Ne Nat I D) ∧ (@Ne Nat C D)) →
      wpAny (model prog w) A (eval elt (compEnvC scope cl C env)) (LCg.CompEnd h₀ L m { s with heap := h, toks := tk } I oI C oC D (LCg.lst ys) S (fun y news' => J (i + 1) (ys ++ [y]) news')) E' { s with heap := h, toks := tk }) :
    ∀ k i ys news, i + k = n → J i ys news → LCg.CompRest prog w A h₀ L m env elt x scope cl s S P Fin k i ys news := by
  intro k
  induction k with
  | zero => exact fun i ys news e hJ => LCg.CompRest.zero (fin ys news ((show i = n by lia) ▸ hJ))
  | succ k ih =>
    intro i ys news e hJ
    refine LCg.CompRest.succ fun v I oI C oC D m₂ h tk E' hP hC hx F N off ne => ?_
    refine wpAny_mono (turn i ys news (by lia) hJ v I oI C oC D m₂ h tk E' hP hC hx F N off ne) (fun y s₂ q => ?_) fun _ _ e => e
    obtain ⟨h', tk', news', rfl, F', N', off', hS, r⟩ := q
    exact ⟨h', tk', news', rfl, F', N', off', hS, ih (i + 1) (ys ++ [y]) news' (by lia) r⟩
theorem pow_small {a : Int} {i : Nat} {t u : Tok} {Q : Value → Shared → Prop} (ha : a = 2 ∨ a = 5) (hi : i < 8) (h : ∀ tk, Q (.int (a ^ i) tk) { s with toks := tk + 1 }) : wpAny (model prog w) A (binaryOp .Pow (.int a t) (.int (i : Int) u)) Q E s := by
  cases i with
  | zero =>
    refine AutoIntOps.pow_0 (by decide) (by decide) ?_
    have := h s.toks
    rw [Int.pow_zero] at this
    exact this
  | succ i =>
    refine AutoIntOps.pow_4 (by lia) (by simp; lia) ?_ ?_ ?_ (h s.toks)
    · rcases ha with rfl | rfl <;> decide
    · rcases ha with rfl | rfl <;> decide
    · have : i = 0 ∨ i = 1 ∨ i = 2 ∨ i = 3 ∨ i = 4 ∨ i = 5 ∨ i = 6 := by lia
      rcases ha with rfl | rfl <;> rcases this with rfl | rfl | rfl | rfl | rfl | rfl | rfl <;> decide +kernel
theorem fdiv_pow {x a : Int} {i : Nat} {t u : Tok} {Q : Value → Shared → Prop} (ha : a = 2 ∨ a = 5) (hi : i < 8) (h : ∀ tk, Q (.int (x.fdiv (a ^ i)) tk) { s with toks := tk + 1 }) : wpAny (model prog w) A (binaryOp .FloorDiv (.int x t) (.int (a ^ i) u)) Q E s := by
  have : i = 0 ∨ i = 1 ∨ i = 2 ∨ i = 3 ∨ i = 4 ∨ i = 5 ∨ i = 6 ∨ i = 7 := by lia
  refine floordiv_int (Int.pow_ne_zero (by rcases ha with rfl | rfl <;> decide)) (h _) (.inl (PyProof.noPylong_of_log2 ?_))
  rcases ha with rfl | rfl <;> rcases this with rfl | rfl | rfl | rfl | rfl | rfl | rfl | rfl <;> decide +kernel
theorem item_any {D : Addr} {vs : List Value} {n : Nat} {k : Int} {u : Tok} {news : Led} {value slice : PySem.Expr} {Q : Value → Shared → Prop} (N : News h₀ L s.heap news) (hm : (D, listOf vs.toArray n) ∈ news) (h0 : 0 ≤ k) (h1 : k < vs.length) (hfit : vs.length < 2 ^ 62) (h : Q (vs.getD k.toNat .none) s)
    (hs : subscripted slice false (.ref D) (.int k u) = operate [.ref D, .int k u] (getItem (.ref D) (.int k u)) := by with_unfolding_all rfl) :
    wpAny (model prog w) A (subscriptTail value slice (.ref D) (.int k u)) Q E s := by
  have hl := PySem.IsL.isList (n := n) (N _ hm).1
  have hk : k.toNat < vs.length := by lia
  refine tail_any hl.typeIs slot_list_getitem.lookup (wpAny_getItem_list hl h0 (by lia) (x := vs.getD k.toNat .none) ?_ h) hs
  simp [hk]
end

-- text: Txt
theorem kind_con {w : World} {mean : ExcName → Option Value} {mg mb : Str → Option Value} {news : Led} {nm p : Str} {t1 t2 : Tok} :
    Con w mean mg mb 28 1 8 news [.str nm t1, .str p t2] (fun r news' => (∃ t, r = .str (Str.ofString "") t) ∧ news' = news) := by
  unfold Con
  k_fill
  intro dp un gd cn cs a ccd cl outer A₀ base h₀ L m s Q E B F X N T hk hd hu hret
  refine wpAny_call ?_
  k_dflt cell_enter
  k_extra "m:steps"
  exact hret _ _ _ _ (by assumption) (by assumption) ⟨⟨_, rfl⟩, rfl⟩
theorem fspath_con {w : World} {mean : ExcName → Option Value} {mg mb : Str → Option Value} {news : Led} {nm p : Str} {t1 t2 : Tok} :
    Con w mean mg mb 35 2 16 news [.str nm t1, .str p t2] (fun r news' => r = .str p t2 ∧ news' = news) := by
  unfold Con
  k_fill
  intro dp un gd cn cs a ccd cl outer A₀ base h₀ L m s Q E B F X N T hk hd hu hret
  refine wpAny_call ?_
  k_dflt cell_enter
  k_extra "m:steps"
  k_dflt (refine' Con.useT ?k1 ?k2 ?k3 ?k4 ?k5 ?k6 kind_con ?k7 ?k8 ?_)
  k_extra "m:use"
  intro t h' tk' F' N'
  k_extra "m:steps"
  exact hret _ _ _ _ (by assumption) (by assumption) ⟨rfl, rfl⟩
/-- what stands behind the last slash -/
noncomputable def baseOf (p : Str) : Str := Txt.slice p (some (Txt.rfind p (Str.ofString "/") + 1)) none
theorem basename_con {w : World} {mean : ExcName → Option Value} {mg mb : Str → Option Value} {news : Led} {p : Str} {t2 : Tok} (hp : p.length < 1000) :
    Con w mean mg mb 63 3 24 news [.str p t2] (fun r news' => (∃ t, r = .str (baseOf p) t) ∧ news' = news) := by
  unfold Con
  k_fill
  intro dp un gd cn cs a ccd cl outer A₀ base h₀ L m s Q E B F X N T hk hd hu hret
  refine wpAny_call ?_
  k_dflt cell_enter
  k_extra "m:steps"
  k_dflt (refine' Con.use2 ?k1 ?k2 ?k3 ?k4 ?k5 ?k6 fspath_con ?k7 ?k8 ?_)
  k_extra "m:use"
  intro h' tk' F' N'
  k_extra "m:steps"
  exact hret _ _ _ _ (by assumption) (by assumption) ⟨⟨_, rfl⟩, rfl⟩
noncomputable def AllDots (p : Str) (lo hi : Int) : Prop := ∀ i, lo ≤ i → i < hi → Txt.slice p (some i) (some (i + 1)) = Str.ofString "."
noncomputable def Stem (p f : Str) : Prop := (AllDots p (Txt.rfind p (Str.ofString "/") + 1) (Txt.rfind p (Str.ofString ".")) ∧ f = p) ∨ (¬ AllDots p (Txt.rfind p (Str.ofString "/") + 1) (Txt.rfind p (Str.ofString ".")) ∧ f = Txt.slice p none (some (Txt.rfind p (Str.ofString "."))))
theorem splitext_con {w : World} {mean : ExcName → Option Value} {mg mb : Str → Option Value} {news : Led} {p : Str} {t2 : Tok} (hp : p.length < 1000) :
    Con w mean mg mb 42 3 24 news [.str p t2] (fun r news' => ∃ T f t e t', Stem p f ∧ r = .ref T ∧ (∀ q ∈ news, q.1 ≠ T) ∧ news' = (T, { cls := .type "tuple", data := .seq [.str f t, .str e t'].toArray }) :: news) := by
  have mk7 : True := .intro
  unfold Con
  k_fill
  intro dp un gd cn cs a ccd cl outer A₀ base h₀ L m s Q E B F X N T hk hd hu hret
  refine wpAny_call ?_
  k_dflt cell_enter
  k_extra "m:steps"
  k_dflt (refine' Con.use2 ?k1 ?k2 ?k3 ?k4 ?k5 ?k6 fspath_con ?k7 ?k8 ?_)
  k_extra "m:use"
  intro h' tk' F' N'
  k_extra "m:steps"
  · (rename Fr _ _ _ _ => Fn); (rename News _ _ _ _ => Nn)
    refine ksw_while (σ := Int × Tok) (fun _ => news) (fun c => [(Str.ofString "filenameIndex", .int c.1 c.2)]) (fun _ => True) [Str.ofString "filenameIndex"]
      (fun c => Txt.rfind p (Str.ofString "/") + 1 ≤ c.1 ∧ AllDots p (Txt.rfind p (Str.ofString "/") + 1) c.1) (fun c => (Txt.rfind p (Str.ofString ".") - c.1).toNat) (Txt.rfind p (Str.ofString "/") + 1, _) Fn Nn trivial (List.forall_mem_cons.mpr ⟨rfl, List.forall_mem_nil _⟩) ⟨Int.le_refl _, fun i h1 h2 => absurd h2 (by lia)⟩ ?turn
    clear Fn Nn
    refine elim2 ?_
    intro i ti u h9 tk9 _ hP9 F9 N9
    refine gen_P fun R9 hR9 => ?_
    obtain ⟨e1, e2⟩ := hP9
    refine of_P hR9 (gen_while fun R8 R7 hR8 hR7 => ?_)
    clear hR9 R9
    k_with "m:own" => ((fail_if_success fail_if_success clear mk7); ((refine of_Q hR8 ?_; (try dsimp only))))
    k_with "m:own" => ((fail_if_success fail_if_success clear mk7); ((refine of_Q1 hR7 ?_; (try dsimp only))))
    dsimp only [kstB] at *
    k_extra "m:steps"
    · refine hret _ _ _ _ (by assumption) (by assumption) ⟨_, _, _, _, _, .inr ⟨fun hd => ?_, rfl⟩, rfl, fun q hq => Nat.ne_of_lt ((by assumption : ∀ p ∈ news, p.1 < _) q hq), rfl⟩
      have := hd i e1 (by assumption)
      simp_all
    · refine ksw_end (i + 1, _) (by assumption) (by assumption) (fun p hp => hp) trivial (List.forall_mem_cons.mpr ⟨rfl, List.forall_mem_nil _⟩) (by k_extra "m:same") ⟨by dsimp only; lia, fun j h1 h2 => ?_⟩ (by dsimp only; lia)
      by_cases hj : j < i
      · exact e2 j h1 hj
      · have hij : j = i := by dsimp only at h2; lia
        subst hij
        simpa using (by assumption : (Txt.slice p (some j) (some (j + 1)) != Str.ofString ".") = false)
    · refine hret _ _ _ _ (by assumption) (by assumption) ⟨_, _, _, _, _, .inl ⟨fun j h1 h2 => e2 j h1 (by lia), rfl⟩, rfl, fun q hq => Nat.ne_of_lt ((by assumption : ∀ p ∈ news, p.1 < _) q hq), rfl⟩
  · refine hret _ _ _ _ (by assumption) (by assumption) ⟨_, _, _, _, _, .inl ⟨fun j h1 h2 => absurd h2 (by lia), rfl⟩, rfl, fun q hq => Nat.ne_of_lt ((by assumption : ∀ p ∈ news, p.1 < _) q hq), rfl⟩

-- text: Mod
theorem modname_con0 {w : World} {mean : ExcName → Option Value} {mg mb : Str → Option Value} {news : Led} {p : Str} {t2 : Tok} (hp : p.length < 1000) (hb : (baseOf p).length < 1000) :
    Con w mean mg mb 111 4 32 news [.str p t2] (fun r news' => (∃ f t, Stem (baseOf p) f ∧ r = .str f t) ∧ news' = news) := by
  unfold Con
  k_fill
  intro dp un gd cn cs a ccd cl outer A₀ base h₀ L m s Q E B F X N T hk hd hu hret
  refine wpAny_call ?_
  k_dflt cell_enter
  k_extra "m:steps"
  k_dflt (refine' Con.useT ?k1 ?k2 ?k3 ?k4 ?k5 ?k6 (basename_con hp) ?k7 ?k8 ?_)
  k_extra "m:use"
  intro t h' tk' F' N'
  k_extra "m:steps"
  k_dflt (refine' Con.use ?k1 ?k2 ?k3 ?k4 ?k5 ?k6 (splitext_con hb) ?k7 ?k8 ?_)
  k_extra "m:use"
  intro _ _ h' tk' F' N' hG1
  refine gen_P fun R9 hR9 => ?_
  obtain ⟨T, f, t1, e, t3, hS, rfl, hT, e2⟩ := hG1
  refine of_P hR9 ?_
  clear hR9 R9
  rw [e2] at N'
  clear e2
  k_extra "m:steps"
  exact hret _ _ _ _ (by assumption) (news_perm (b := news) (by assumption) fun p hp => .tail _ hp) ⟨⟨f, t1, hS, rfl⟩, rfl⟩
noncomputable def hasDot (x : Str) : Bool := !(Builtin.Str.occurrences x (Str.ofString ".") 0 x.length 1).isEmpty
noncomputable def lastOf (l : List Str) : Str := l[l.length - 1]!
/-- the module as the law tells it -/
noncomputable def lawMod (p : Str) : Str :=
  if hasDot (Txt.lstripChars (lastOf (Txt.split p (Str.ofString "/"))) (Str.ofString ".")) = true then Txt.join (Str.ofString ".") (Txt.split (lastOf (Txt.split p (Str.ofString "/"))) (Str.ofString ".")).dropLast
  else lastOf (Txt.split p (Str.ofString "/"))
theorem last_eq {l : List (Str × Tok)} {ss : List Str} (e : l.map (·.1) = ss) (hp : 0 < l.length) : (l[l.length - 1]!).1 = lastOf ss := by
  subst e
  have h : l.length - 1 < l.length := by lia
  simp [lastOf, h]
theorem lawmod_con {w : World} {mean : ExcName → Option Value} {mg mb : Str → Option Value} {news : Led} {p : Str} {t2 : Tok} (hp : p.length < 1000) :
    Con w mean mg mb 205 1 8 news [.str p t2] (fun r news' => (∃ t, r = .str (lawMod p) t) ∧ news' = news) := by
  have mk8 : True := .intro
  unfold Con
  k_fill
  intro dp un gd cn cs a ccd cl outer A₀ base h₀ L m s Q E B F X N T hk hd hu hret
  refine wpAny_call ?_
  k_dflt cell_enter
  k_with "m:sizes" => ((fail_if_success fail_if_success clear mk8); ((have hs1 := sum_dropLast ls'; have hs2 : ls'.dropLast.length ≤ ls'.length := (by simp); have hs3 : (Str.ofString ".").length = 1 := (by decide); rw [hs3]; lia)))
  k_extra "m:steps"
  · (rename (List.isEmpty _ = _) => hoc)
    have e1 := last_eq es' hp'
    refine hret _ _ _ _ (by assumption) (news_perm (b := news) (by assumption) fun p hp => .tail _ hp) ⟨str_ex ?_, rfl⟩
    rw [lawMod, ← e1, if_neg]
    unfold hasDot
    rw [hoc]
    decide
  · (rename (List.isEmpty _ = _) => hoc)
    have e1 := last_eq (by assumption : List.map (fun x : Str × Tok => x.1) _ = Txt.split p (Str.ofString "/")) (by assumption)
    refine hret _ _ _ _ (by assumption) (news_perm (b := news) (by assumption) fun p hp => .tail _ (.tail _ (.tail _ hp))) ⟨str_ex ?_, rfl⟩
    rw [lawMod, ← e1, if_pos, ← es', List.map_dropLast]
    unfold hasDot
    rw [hoc]
    decide

-- text: Path
/-- the sign that a figure stands for -/
noncomputable def sign (x : Int) (i : Nat) : Str := ([Str.ofString "", Str.ofString "/", Str.ofString ".", Str.ofString "a", Str.ofString "b"] : List Str).getD ((x.fdiv (5 ^ i)).fmod 5).toNat (Str.ofString "")
theorem fmod5 (z : Int) : 0 ≤ z.fmod 5 ∧ z.fmod 5 < 5 := ⟨Int.fmod_nonneg_of_pos _ (by decide), Int.fmod_lt_of_pos _ (by decide)⟩
theorem pick5 {s0 s1 s2 s3 s4 : Str} {t0 t1 t2 t3 t4 : Tok} {j : Nat} (hj : j < 5) : ∃ t, ([.str s0 t0, .str s1 t1, .str s2 t2, .str s3 t3, .str s4 t4] : List Value).getD j .none = .str (([s0, s1, s2, s3, s4] : List Str).getD j (Str.ofString "")) t := by
  have : j = 0 ∨ j = 1 ∨ j = 2 ∨ j = 3 ∨ j = 4 := by lia
  rcases this with rfl | rfl | rfl | rfl | rfl <;> exact ⟨_, rfl⟩
noncomputable def signs (x : Int) : List Str := (List.range 7).map (sign x) ++ [Str.ofString ""]
/-- the path that a number tells -/
noncomputable def pathOf (x : Int) : Str := Txt.join (Str.ofString "") ((signs x).take ((signs x).idxOf (Str.ofString "")))
theorem sign_len (x : Int) (i : Nat) : (sign x i).length ≤ 1 := by
  unfold sign
  have h := fmod5 (x.fdiv (5 ^ i))
  have : ((x.fdiv (5 ^ i)).fmod 5).toNat = 0 ∨ ((x.fdiv (5 ^ i)).fmod 5).toNat = 1 ∨ ((x.fdiv (5 ^ i)).fmod 5).toNat = 2 ∨ ((x.fdiv (5 ^ i)).fmod 5).toNat = 3 ∨ ((x.fdiv (5 ^ i)).fmod 5).toNat = 4 := by lia
  rcases this with e | e | e | e | e <;> rw [e] <;> decide
theorem sum_le_len : ∀ (l : List (Str × Tok)), (∀ p ∈ l, p.1.length ≤ 1) → (l.map (·.1.length)).sum ≤ l.length
  | [], _ => Nat.le_refl _
  | a :: r, h => by
    have h1 := h a (.head _)
    have h2 := sum_le_len r fun p hp => h p (.tail _ hp)
    simp only [List.map_cons, List.sum_cons, List.length_cons]
    lia
theorem path_con {w : World} {mean : ExcName → Option Value} {mg mb : Str → Option Value} {news : Led} {x : Int} {t2 : Tok} :
    Con w mean mg mb 198 1 8 news [.int x t2] (fun r news' => (∃ t, r = .str (pathOf x) t) ∧ news' = news) := by
  have mk9 : True := .intro
  unfold Con
  k_fill
  intro dp un gd cn cs a ccd cl outer A₀ base h₀ L m s Q E B F X N T hk hd hu hret
  refine wpAny_call ?_
  k_dflt (k_extra "m:enterC")
  k_extra "m:steps"
  k_extra "m:comp"
  k_extra "m:steps"
  k_dflt (refine LCg.CompSrc.range (n := 7) (by rfl) (by k_asm) (by k_asm) (by assumption) (by first | decide | rfl) (by first | rfl | decide) (by unfold sizeLine; lia) ?_)
  intro g9
  refine comp_inv 7 (fun i ys nw => (∃ l : List (Str × Tok), ys = l.map strO.val ∧ l.map (·.1) = (List.range i).map (sign x)) ∧ nw = _) ?fin ?turn 7 0 [] _ rfl ⟨⟨[], rfl, rfl⟩, rfl⟩
  case turn =>
    rintro i ys nw hi ⟨⟨l, rfl, hl⟩, rfl⟩ v I oI C oC D m₂ h tk E' ⟨t9, rfl⟩ hC hx F9 N9 off ne
    have hz : (0 : Int) + (i : Int) = (i : Nat) := by lia
    rw [hz] at hx
    have hf := fmod5 (x.fdiv (5 ^ i))
    have hf0 := hf.1
    have hf1 := hf.2
    have hstopA := trivial
    k_with "m:stop" => ((fail_if_success fail_if_success clear mk9); ((have hq := hstopA; (with_reducible show wpAny _ _ (subscriptTail _ _ (Value.ref _) (Value.int _ _)) _ _ _))))
    k_extra "m:steps"
    (rename Fr _ _ _ _ => Fn)
    (rename News _ _ _ _ => Nn)
    k_dflt (refine' item_any Nn (by k_mem) hf0 ?k4 ?k5 ?_ (by with_unfolding_all rfl))
    (case k4 => exact hf1)
    (case k5 => show 5 < 2 ^ 62; decide)
    obtain ⟨t, e⟩ := pick5 (j := ((x.fdiv (5 ^ i)).fmod 5).toNat) (by lia)
    rw [e]
    exact LCg.CompEnd.intro Fn Nn _ (fun p hp => .tail _ hp) off trivial ⟨⟨l ++ [(sign x i, t)], by simp [strO, sign], by simp [hl, List.range_succ]⟩, rfl⟩
  case fin =>
    rintro ys nw ⟨⟨l, rfl, hl⟩, rfl⟩
    unfold LCg.FinE
    intro D9 h9 tk9 F9 N9 o9
    dsimp only
    k_extra "m:steps"
    (rename Fr _ _ _ _ => Fn)
    (rename News _ _ _ _ => Nn)
    have hl7 : l.length = 7 := by have := congrArg List.length hl; simpa using this
    have hl8 : (l ++ [(Str.ofString "", tk9)]).length = 8 := by simp [hl7]
    have hl8' : (l ++ [(Str.ofString "", tk9)]).length < 1000 := by lia
    have hmem : Str.ofString "" ∈ (l ++ [(Str.ofString "", tk9)]).map (·.1) := by simp
    k_dflt (refine' add_strs (l₁ := l) (l₂ := [(Str.ofString "", tk9)]) Fn Nn (by k_mem) (by k_mem) (by simp [hl7]; unfold sizeLine; lia) ?_)
    intro Da h' F' N' l1'
    (try k_sweep)
    generalize hL : l ++ [(Str.ofString "", tk9)] = ll at *
    have hll : ll.map (·.1) = signs x := by rw [← hL]; simp [hl, signs]
    have hone : ∀ p ∈ ll, p.1.length ≤ 1 := fun p hp => by
      have : p.1 ∈ signs x := hll ▸ List.mem_map.mpr ⟨p, hp, rfl⟩
      rcases List.mem_append.mp this with h | h
      · obtain ⟨i, _, e⟩ := List.mem_map.mp h
        rw [← e]; exact sign_len x i
      · rw [List.mem_singleton.mp h]; decide
    have hsz : (List.map (fun x => x.fst.length) (List.take (List.idxOf (Str.ofString "") (List.map (fun x => x.fst) ll)) ll)).sum + (List.take (List.idxOf (Str.ofString "") (List.map (fun x => x.fst) ll)) ll).length * (Str.ofString "").length ≤ 16777216 := by
      have hs1 := sum_le_len (List.take (List.idxOf (Str.ofString "") (List.map (fun x => x.fst) ll)) ll) (fun p hp => hone p (List.mem_of_mem_take hp))
      have hs2 := List.length_take_le (List.idxOf (Str.ofString "") (List.map (fun x => x.fst) ll)) ll
      have hs3 : (Str.ofString "").length = 0 := by decide
      have hs4 : (List.take (List.idxOf (Str.ofString "") (List.map (fun x => x.fst) ll)) ll).length ≤ ll.length := by simp; lia
      rw [hs3]; lia
    k_with "m:sizes" => ((fail_if_success fail_if_success clear mk9); (assumption))
    k_extra "m:steps"
    refine hret _ _ _ _ (by assumption) (news_perm (b := news) (by assumption) fun p hp => ?_) ⟨str_ex ?_, rfl⟩
    · exact .tail _ (.tail _ (.tail _ (.tail _ (.tail _ hp))))
    · rw [List.map_take, hll]
      rfl

-- text: Norm
theorem cpath_con {w : World} {mean : ExcName → Option Value} {mg mb : Str → Option Value} {rest : Led} {n1 n2 n3 p : Str} {t1 t2 t3 t4 : Tok} {Dt Dd : Addr} {od : Obj} (hs : Obj.IsDictOf (PySem.strKind Challenge.rw_nq0173_01.row.prog w) od []) (lo : (Dd == sysModules) = false) :
    Con w mean mg mb 49 2 16 ((Dd, od) :: (Dt, { cls := .type "tuple", data := .seq [.str p t4].toArray }) :: rest) [.str n1 t1, .str n2 t2, .str n3 t3, .ref Dt, .ref Dd] (fun r news' => r = .str p t4 ∧ news' = (Dd, od) :: (Dt, { cls := .type "tuple", data := .seq [.str p t4].toArray }) :: rest) := by
  unfold Con
  k_fill
  intro dp un gd cn cs a ccd cl outer A₀ base h₀ L m s Q E B F X N T hk hd hu hret
  refine wpAny_call ?_
  k_dflt cell_enter
  k_extra "m:steps"
  (rename Fr _ _ _ _ => Fn)
  (rename News _ _ _ _ => Nn)
  refine wpAny_truthy_dict (knd := PySem.strKind Challenge.rw_nq0173_01.row.prog w) (kvs := []) lo (Heap.dictOf_iff.mpr ⟨_, (Nn _ (.head _)).1, hs⟩) (by decide) ?_
  k_extra "m:steps"
  k_dflt (refine' Con.useT ?k1 ?k2 ?k3 ?k4 ?k5 ?k6 kind_con ?k7 ?k8 ?_)
  k_extra "m:use"
  intro t h' tk' F' N'
  k_extra "m:steps"
  exact hret _ _ _ _ (by assumption) (by assumption) ⟨rfl, rfl⟩
noncomputable def rootOf (p : Str) : Str × Str := if (Txt.slice p none (some 1) != Str.ofString "/") = true then (Str.ofString "", p) else (Str.ofString "/", Txt.slice p (some 1) none)
noncomputable def RootOk (p : Str) : Prop := (Txt.slice p none (some 1) != Str.ofString "/") = true ∨ (Txt.slice p (some 1) (some 2) != Str.ofString "/") = true
theorem splitroot_con {w : World} {mean : ExcName → Option Value} {mg mb : Str → Option Value} {news : Led} {p : Str} {t : Tok} (hp : p.length < 1000) (h2 : RootOk p) :
    Con w mean mg mb 56 1 8 news [.str p t] (fun r news' => ∃ T t1 t2 t3 a b, rootOf p = (a, b) ∧ r = .ref T ∧ (∀ q ∈ news, q.1 ≠ T) ∧ news' = (T, { cls := .type "tuple", data := .seq [.str (Str.ofString "") t1, .str a t2, .str b t3].toArray }) :: news) := by
  unfold Con
  k_fill
  intro dp un gd cn cs a ccd cl outer A₀ base h₀ L m s Q E B F X N T hk hd hu hret
  refine wpAny_call ?_
  k_dflt cell_enter
  by_cases hA : (Txt.slice p none (some 1) != Str.ofString "/") = true
  · k_extra "m:steps"
    exact hret _ _ _ _ (by assumption) (by assumption) ⟨_, _, _, _, _, _, if_pos hA, rfl, fun q hq => Nat.ne_of_lt ((by assumption : ∀ p ∈ news, p.1 < _) q hq), rfl⟩
  · have h3 := h2.resolve_left hA
    have hA2 := Bool.eq_false_iff.mpr hA
    k_extra "m:steps"
    exact hret _ _ _ _ (by assumption) (by assumption) ⟨_, _, _, _, _, _, if_neg hA, rfl, fun q hq => Nat.ne_of_lt ((by assumption : ∀ p ∈ news, p.1 < _) q hq), rfl⟩
theorem str_len0 {x : Str} : (x.length : Int) = 0 ↔ x = Str.ofString "" := by
  constructor
  · intro h
    have h2 : x.cps.size = 0 := by have : x.length = 0 := by omega
                                   exact this
    cases x with | mk c => cases c with | mk l => cases l with | nil => rfl | cons a b => simp at h2
  · intro h; rw [h]; decide
theorem sum_filter (q : Str → Bool) : ∀ l : List Str, ((l.filter q).map (·.length)).sum ≤ (l.map (·.length)).sum
  | [] => Nat.le_refl _
  | a :: r => by
    have := sum_filter q r
    rw [List.filter_cons]
    split
    · simp only [List.map_cons, List.sum_cons]; omega
    · simp only [List.map_cons, List.sum_cons]; omega
noncomputable def goodPart (c : Str) : Bool := !(c == Str.ofString "") && !(c == Str.ofString ".")
noncomputable def normParts (p : Str) : List Str := (Txt.split (rootOf p).2 (Str.ofString "/")).filter goodPart
noncomputable def normOf (p : Str) : Str := (rootOf p).1 ++ Txt.join (Str.ofString "/") (normParts p)
theorem normpath0_con {w : World} {mean : ExcName → Option Value} {mg mb : Str → Option Value} {news : Led} {p : Str} {t : Tok} (hp : p.length < 1000) (h0 : 0 < p.length) (h2 : RootOk p) (hr : (rootOf p).2.length < 1000)
    (hdd : ∀ c ∈ Txt.split (rootOf p).2 (Str.ofString "/"), c ≠ Str.ofString "..") :
    Con w mean mg mb 70 2 16 news [.str p t] (fun r news' => (∃ t', r = .str (if normOf p = Str.ofString "" then Str.ofString "." else normOf p) t') ∧ news' = news) := by
  have mk10 : True := .intro
  unfold Con
  k_fill
  intro dp un gd cn cs a ccd cl outer A₀ base h₀ L m s Q E B F X N T hk hd hu hret
  refine wpAny_call ?_
  k_dflt cell_enter
  k_extra "m:steps"
  rotate_left
  · exact absurd (by assumption : (p.length : Int) = 0) (by omega)
  k_dflt (refine' Con.use ?k1 ?k2 ?k3 ?k4 ?k5 ?k6 (splitroot_con hp h2) ?k7 ?k8 ?_)
  k_extra "m:use"
  intro _ _ h' tk' F' N' hG2
  refine gen_P fun R9 hR9 => ?_
  obtain ⟨T, t1, t3, t4, ra, rb, hroot, rfl, hT, e2⟩ := hG2
  refine of_P hR9 ?_
  clear hR9 R9
  rw [e2] at N'
  clear e2
  rw [hroot] at hr hdd
  dsimp only at hr hdd
  k_extra "m:steps"
  (rename Fr _ _ _ _ => Fn)
  (rename News _ _ _ _ => Nn)
  rename_i lN _ hl1 _
  obtain ⟨R, hR⟩ : ∃ R : Led, R = (Ds', listOf (ls'.map strO.val).toArray 0) :: (T, ({ cls := Value.type "tuple", data := Data.seq [Value.str (Str.ofString "") t1, Value.str ra t3, Value.str rb t4].toArray } : Obj)) :: news := ⟨_, rfl⟩
  have hrN : ∀ p ∈ R, p.1 ≠ lN := hR ▸ allLt_out hl1
  have hDs : (Ds', listOf (ls'.map strO.val).toArray 0) ∈ R := hR ▸ .head _
  have hsub : ∀ p ∈ news, p ∈ R := fun p hp => hR ▸ .tail _ (.tail _ hp)
  have Nn' : News _ _ _ ((lN, listOf (List.map strO.val []).toArray 0) :: R) := hR ▸ Nn
  clear Nn hR
  k_dflt (refine For_turns Fn ?_)
  k_extra "m:steps"
  (rename Fr _ _ _ _ => Fn)
  (rename News _ _ _ _ => Nn)
  k_dflt (refine iter_listTurns (vs := ls'.map strO.val) (n := 0) rfl Fn Nn (.tail _ hDs) rfl rfl ?_)
  intro I hI
  have hIN : lN ≠ I := Nat.ne_of_lt (hI _ (.head _))
  have hIr : ∀ p ∈ R, p.1 ≠ I := fun p hp => Nat.ne_of_lt (hI p (.tail _ hp))
  clear hI hl1
  k_dflt (refine items_st (σ := List (Str × Tok) × Nat) (fun c => (lN, listOf (c.1.map strO.val).toArray c.2) :: R) (fun _ => []) [Str.ofString "comp"] (fun items c => ∃ pre rest, items = rest.map (fun x : Str × Tok => Itm.val (.str x.1 x.2)) ∧ ls' = pre ++ rest ∧ c.1.map (·.1) = (pre.map (·.1)).filter goodPart) ?turn ?done _ ([], 0) _ ⟨[], ls', by simp [strO, Function.comp_def], rfl, rfl⟩ (List.forall_mem_nil _) (fun _ _ _ => rfl))
  case turn =>
    clear Fn Nn
    intro a r
    refine elim2 ?_
    intro ys k u v h tk hP9 hv F9 o ho N9
    refine gen_P fun R9 hR9 => ?_
    obtain ⟨pre, rest, e1, e2, e3⟩ := hP9
    refine of_P hR9 (gen_body fun R8 hR8 => ?_)
    clear hR9 R9
    k_with "m:own" => ((fail_if_success fail_if_success clear mk10); ((refine of_Q hR8 ?_; (try dsimp only))))
    cases rest with
    | nil => cases e1
    | cons x rest =>
      cases e1
      have hv' : v = .str x.1 x.2 := hv
      subst hv'
      dsimp only [kstB] at *
      have hxx : x.1 ∈ ls'.map (·.1) := List.mem_map.mpr ⟨x, by rw [e2]; simp, rfl⟩
      have hnd : (x.1 != Str.ofString "..") = true := by simpa using hdd x.1 (es' ▸ hxx)
      have hxl : x.1.length ≤ rb.length := part_short (es' ▸ hxx)
      have hyl : ys.length ≤ ls'.length := by
        have h1 := congrArg List.length e3
        have h2 := List.length_filter_le goodPart (pre.map (·.1))
        rw [e2]
        simp only [List.length_map, List.length_append] at *
        omega
      have hIN' : (I, o).1 ≠ lN := hIN.symm
      have hoff : ∀ (zs : List (Str × Tok)) (j : Nat), ∀ p ∈ (lN, listOf (zs.map strO.val).toArray j) :: R, ∀ q ∈ [(I, o)], p.1 ≠ q.1 := fun zs j p hp q hq => by
        rw [List.mem_singleton.mp hq]
        rcases List.mem_cons.mp hp with rfl | hp
        · exact hIN
        · exact hIr p hp
      k_extra "m:steps"
      · exact it_end (ys, k) (by assumption) (by assumption) (fun p hp => hp) (hoff _ _) (fun p hp => by rw [List.mem_singleton.mp hp]; exact .tail _ hDs) (List.forall_mem_nil _) (by k_extra "m:same") ⟨pre ++ [x], rest, rfl, by simp [e2], by simp_all [goodPart]⟩
      · exact it_end (ys ++ [x], k + 1) (by assumption) (by assumption) (fun p hp => hp) (hoff _ _) (fun p hp => by rw [List.mem_singleton.mp hp]; exact .tail _ hDs) (List.forall_mem_nil _) (by k_extra "m:same") ⟨pre ++ [x], rest, rfl, by simp [e2], by
          have hz : (x.1 == Str.ofString "") = false := by
            simpa using fun e => absurd (str_len0.mpr e) (by assumption)
          have hg : goodPart x.1 = true := by
            unfold goodPart
            rw [hz, (by assumption : (x.1 == Str.ofString ".") = false)]
            rfl
          rw [List.map_append, List.map_append, List.filter_append, e3]
          show _ ++ [x.1] = _ ++ List.filter goodPart [x.1]
          rw [List.filter_cons_of_pos hg]
          rfl⟩
      · exact it_end (ys, k) (by assumption) (by assumption) (fun p hp => hp) (hoff _ _) (fun p hp => by rw [List.mem_singleton.mp hp]; exact .tail _ hDs) (List.forall_mem_nil _) (by k_extra "m:same") ⟨pre ++ [x], rest, rfl, by simp [e2], by
          have hz : x.1 = Str.ofString "" := str_len0.mp (by assumption)
          simp_all [goodPart]⟩
  case done =>
    clear Fn Nn
    refine elim2 ?_
    intro ys k u h tk hP9 F9 N9
    refine gen_P fun R9 hR9 => ?_
    obtain ⟨pre, rest, e1, e2, e3⟩ := hP9
    refine of_P hR9 ?_
    clear hR9 R9
    cases rest with
    | cons x rest => cases e1
    | nil =>
      dsimp only [kstB] at *
      have hlp : ls' = pre := by simpa using e2
      have hsum : (ys.map (·.1.length)).sum + ys.length ≤ 1001 := by
        have h1 := congrArg List.length e3
        have h2 := List.length_filter_le goodPart (pre.map (·.1))
        have h3 := sum_filter goodPart (pre.map (·.1))
        have h4 : (ys.map (·.1.length)).sum = ((ys.map (·.1)).map (·.length)).sum := by rw [List.map_map]; rfl
        have h5 : (ls'.map (·.1.length)).sum = ((pre.map (·.1)).map (·.length)).sum := by rw [List.map_map, hlp]; rfl
        rw [h4, e3]
        rw [h5] at hw'
        simp only [List.length_map, hlp] at *
        omega
      have hsep : (Str.ofString "/").length = 1 := by decide
      have hsz : (ys.map (·.1.length)).sum + ys.length * (Str.ofString "/").length ≤ 16777216 := by rw [hsep]; omega
      have hjl : (Txt.join (Str.ofString "/") (ys.map (·.1))).length ≤ 2000 := by
        have h6 := size_glued (Str.ofString "/") (ys.map (·.1))
        have h4 : (ys.map (·.1.length)).sum = ((ys.map (·.1)).map (·.length)).sum := by rw [List.map_map]; rfl
        rw [hsep, ← h4, List.length_map] at h6
        show (Builtin.Str.glued _ _).length ≤ _
        omega
      have hra : ra.length ≤ 1 := by
        have h7 : ra = (rootOf p).1 := by rw [hroot]
        have h8 : (Str.ofString "").length ≤ 1 := by decide
        rw [h7, rootOf]
        split
        · exact h8
        · exact Nat.le_of_eq hsep
      k_with "m:sizes" => ((fail_if_success fail_if_success clear mk10); (assumption))
      have hnp : ys.map (·.1) = normParts p := by rw [e3, normParts, hroot, ← es', hlp]
      have hno : ra ++ Txt.join (Str.ofString "/") (ys.map (·.1)) = normOf p := by rw [normOf, hroot, hnp]
      k_extra "m:steps"
      · refine hret _ _ _ _ (by assumption) (news_perm (b := news) (by assumption) fun p hp => .tail _ (hsub p hp)) ⟨str_ex ?_, rfl⟩
        rw [hno, if_neg]
        intro e
        exact absurd (str_len0.mpr e) (by rw [← hno]; assumption)
      · refine hret _ _ _ _ (by assumption) (news_perm (b := news) (by assumption) fun p hp => .tail _ (hsub p hp)) ⟨str_ex ?_, rfl⟩
        rw [if_pos]
        exact str_len0.mp (by rw [← hno]; assumption)

-- text: Norm2
theorem normpath_con {w : World} {mean : ExcName → Option Value} {mg mb : Str → Option Value} {news : Led} {p : Str} {t : Tok} (hp : p.length < 1000) (h0 : 0 < p.length) (h2 : RootOk p) (hr : (rootOf p).2.length < 1000)
    (hdd : ∀ c ∈ Txt.split (rootOf p).2 (Str.ofString "/"), c ≠ Str.ofString "..") :
    Con w mean mg mb 77 3 24 news [.str p t] (fun r news' => (∃ t', r = .str (if normOf p = Str.ofString "" then Str.ofString "." else normOf p) t') ∧ news' = news) := by
  unfold Con
  k_fill
  intro dp un gd cn cs a ccd cl outer A₀ base h₀ L m s Q E B F X N T hk hd hu hret
  refine wpAny_call ?_
  k_dflt (k_extra "m:enterB")
  k_extra "m:steps"
  k_dflt (refine' Con.use2 ?k1 ?k2 ?k3 ?k4 ?k5 ?k6 (cpath_con hs' lo') ?k7 ?k8 ?_)
  k_extra "m:use"
  intro h' tk' F' N'
  k_extra "m:steps"
  k_dflt (refine' Con.useT ?k1 ?k2 ?k3 ?k4 ?k5 ?k6 (normpath0_con hp h0 h2 hr hdd) ?k7 ?k8 ?_)
  k_extra "m:use"
  intro t' h' tk' F' N'
  k_extra "m:steps"
  exact hret _ _ _ _ (by assumption) (news_perm (b := news) (by assumption) fun p hp => .tail _ (.tail _ hp)) ⟨⟨_, rfl⟩, rfl⟩

-- text: Sets
/-- the set at a holds just these texts -/
noncomputable def SetIs (prog : Program) (w : World) (h : Heap) (a : Addr) (l : List (Str × Tok)) : Prop :=
  ∃ es ep tb, h.get? a = some { cls := .type "set", data := .set es ep tb } ∧ ElemsOf (PySem.strKind prog w) es.toList ∧ (es.toList.map (·.2)).Perm (l.map strO.val) ∧ es.size < scanBound ∧ tb.fits es.size = true ∧ tb.led = (!w.params.followText "set-order") ∧ (l = [] ∨ tb.plain = false)
theorem orStandIn_marks (t : SetTable) (n : Nat) : (t.orStandIn n).led = t.led ∧ (t.plain = false → (t.orStandIn n).plain = false) := by
  unfold SetTable.orStandIn
  cases t.fits n with
  | true => exact ⟨rfl, fun e => e⟩
  | false => exact ⟨rfl, fun _ => rfl⟩
theorem layNew_marks (t : SetTable) (es : Array (Int × Value)) (h : Int) (x : Value) : (layNew t es h x).2.1.led = t.led ∧ (t.plain = false → (layNew t es h x).2.1.plain = false) := by
  unfold layNew
  cases t.freeSlot h with
  | none => exact ⟨rfl, fun _ => rfl⟩
  | some p => exact orStandIn_marks (t.put p.1).1 _
theorem relayAll_marks (t : SetTable) (es : Array (Int × Value)) (n : Nat) : (relayAll t es n).2.1.led = t.led ∧ (t.plain = false → (relayAll t es n).2.1.plain = false) := by
  unfold relayAll
  cases he : t.relaid (es.map (·.1)) n with
  | none => exact ⟨rfl, fun _ => rfl⟩
  | some p =>
    obtain ⟨t', order⟩ := p
    have hm : t'.led = t.led ∧ t'.plain = t.plain := by
      unfold SetTable.relaid SetTable.laid at he
      cases hc : SetTable.layClean (SetTable.sizeAbove n - 1) (es.map (·.1)) with
      | none => rw [hc] at he; cases he
      | some owner => rw [hc] at he; cases he; exact ⟨rfl, rfl⟩
    dsimp only
    cases (coversAll order es.size && t'.fits (order.filterMap (es[·]?)).size) with
    | true => exact ⟨hm.1, fun e => hm.2.trans e⟩
    | false => exact ⟨rfl, fun _ => rfl⟩
section
variable {prog : Program} {w : World} {A : Around} {E : Value → Shared → Prop} {s : Shared}
theorem set_stored {a : Addr} {es es' : Array (Int × Value)} {ep : Nat} {t t' : SetTable} {Q : Unit → Shared → Prop} (ho : s.heap.get? a = some { cls := .type "set", data := .set es ep t }) (hz : es'.size < scanBound)
    (h : ∀ h', Heap.SameBut a s.heap h' → h'.get? a = some { cls := .type "set", data := .set es' (ep + 1) t' } → Q () { s with heap := h' }) : wpAny (model prog w) A (storeSet a es' t') Q E s := by
  refine wpAny_storeSet_of ho rfl (h _ (Heap.SameBut.update ..) ?_) (fits_of_scanBound hz)
  have := Heap.get?_update_self (Obj.putSet es' t') ho (by rw [putSet_of es' t' rfl]; rfl)
  rw [putSet_of es' t' rfl] at this
  exact this
theorem set_tail {g : Bool → Sem Unit} (hg : ∀ (b : Bool) (s₁ : Shared) (Q' : Unit → Shared → Prop), Q' () s₁ → wpAny (model prog w) A (g b) Q' E s₁)
    {a : Addr} {es es1 : Array (Int × Value)} {ep : Nat} {t t2 : SetTable} {l : List (Str × Tok)} (ho : s.heap.get? a = some { cls := .type "set", data := .set es ep t }) (hel : ElemsOf (PySem.strKind prog w) es1.toList) (hpm : (es1.toList.map (·.2)).Perm (l.map strO.val))
    (hb : es1.size < scanBound) (hf : t2.fits es1.size = true) (hled : t2.led = (!w.params.followText "set-order")) (hpl : t2.plain = false) {wasDummy : Bool} {R : Option Bool → Shared → Prop}
    (h : ∀ h', Heap.SameBut a s.heap h' → SetIs prog w h' a l → R (some true) { s with heap := h' }) :
    wpAny (model prog w) A (do
        storeSet a es1 t2
        if (!wasDummy && t2.tooFull) = true then do
            g (relayAll t2 es1 (SetTable.grown es1.size)).2.2
            storeSet a (relayAll t2 es1 (SetTable.grown es1.size)).1 (relayAll t2 es1 (SetTable.grown es1.size)).2.1
            pure (some true)
          else pure (some true)) R E s := by
  refine wpAny_bind (set_stored ho hb fun h' hsb hg' => ?_)
  split
  · have hp := relayAll_perm t2 es1 (SetTable.grown es1.size)
    have hfr := relayAll_fits t2 es1 (SetTable.grown es1.size)
    have hmk := relayAll_marks t2 es1 (SetTable.grown es1.size)
    generalize relayAll t2 es1 (SetTable.grown es1.size) = Rl at hp hfr hmk ⊢
    obtain ⟨es2, t3, gave2⟩ := Rl
    dsimp only at hp hfr hmk ⊢
    have hsz : es2.size = es1.size := by rw [← Array.length_toList, hp.length_eq, Array.length_toList]
    refine wpAny_bind (hg _ _ _ (wpAny_bind (set_stored (s := { s with heap := h' }) hg' (by rw [hsz]; exact hb) fun h'' hsb' hg'' => ?_)))
    exact wpAny_pure (h h'' (hsb.trans hsb') ⟨es2, _, t3, hg'', hel.perm hp, (hp.map _).trans hpm, by rw [hsz]; exact hb, hfr, hmk.1.trans hled, .inr (hmk.2 hpl)⟩)
  · exact wpAny_pure (h h' hsb ⟨es1, _, t2, hg', hel, hpm, hb, hf, hled, .inr hpl⟩)
theorem set_add {a : Addr} {l : List (Str × Tok)} {x : Str} {t : Tok} {Q : Bool → Shared → Prop} (hS : SetIs prog w s.heap a l) (hx : x ∉ l.map (·.1)) (hroom : l.length + 1 < scanBound)
    (h : ∀ h', Heap.SameBut a s.heap h' → SetIs prog w h' a (l ++ [(x, t)]) → Q true { s with heap := h' }) :
    wpAny (model prog w) A (setAddHashed a (.str x t) ((PySem.strKind prog w).hash x)) Q E s := by
  obtain ⟨es, ep, tb, ho, hel, hpm, hb, hf, hled, hpl⟩ := hS
  have hn : es.size = l.length := by have := hpm.length_eq; simpa using this
  unfold setAddHashed setAddHashedIn
  refine wpAny_holding (wpAny_bind (wpAny_setState_of ho rfl hf ?_))
  dsimp only
  rw [byScan_of (knd := PySem.strKind prog w) (x := .str x t) rfl hb hel]
  simp only [↓reduceIte]
  unfold setAddByScan
  refine wpAny_bind (wpAny_bind (wpAny_rule (wpAny_bind (wpAny_setScan_of (knd := PySem.strKind prog w) (k := x) (strKind_is prog w x t) ho rfl hf hel ?_))))
  have hnone : List.findIdx? (fun e => (PySem.strKind prog w).is x e.2) es.toList = none := by
    rw [List.findIdx?_eq_none_iff]
    intro e he
    cases hq : (PySem.strKind prog w).is x e.2 with
    | false => rfl
    | true =>
      obtain ⟨t', et⟩ := Value.isStrOf_shape hq
      have hm : e.2 ∈ l.map strO.val := hpm.mem_iff.mp (List.mem_map.mpr ⟨e, he, rfl⟩)
      obtain ⟨y, hy, ey⟩ := List.mem_map.mp hm
      rw [et] at ey
      cases ey
      exact absurd (List.mem_map.mpr ⟨y, hy, rfl⟩) hx
  rw [hnone]
  dsimp only
  have hgw : ∀ (b : Bool) (s₁ : Shared) (Q' : Unit → Shared → Prop), Q' () s₁ → wpAny (model prog w) A (match b with | true => rule "set.scan.the-table-gave-way" | false => pure ()) Q' E s₁ :=
    fun b s₁ Q' hq => by cases b <;> first | exact wpAny_pure hq | exact wpAny_rule hq
  have hperm := layNew_perm tb es ((PySem.strKind prog w).hash x) (.str x t)
  have hfits := layNew_fits tb es ((PySem.strKind prog w).hash x) (.str x t)
  have hmk := layNew_marks tb es ((PySem.strKind prog w).hash x) (.str x t)
  generalize layNew tb es ((PySem.strKind prog w).hash x) (.str x t) = Lw at hperm hfits hmk ⊢
  obtain ⟨es1, t1, wasDummy, gave⟩ := Lw
  dsimp only at hperm hfits hmk ⊢
  rw [Array.toList_push] at hperm
  have hel1 : ElemsOf (PySem.strKind prog w) es1.toList := (hel.push (strKind_is prog w x t) rfl).perm hperm
  have hsz : es1.size = l.length + 1 := by rw [← Array.length_toList, hperm.length_eq, List.length_append, Array.length_toList, hn]; rfl
  have hpm1 : (es1.toList.map (·.2)).Perm ((l ++ [(x, t)]).map strO.val) := by
    refine (hperm.map _).trans ?_
    rw [List.map_append, List.map_append]
    exact hpm.append_right _
  have hb1 : es1.size < scanBound := by rw [hsz]; exact hroom
  refine wpAny_bind (hgw _ _ _ ?_)
  split
  · refine wpAny_bind ?_
    rw [hashByValue_scannable 8 (x := .str x t) rfl]
    refine wpAny_pure ?_
    show wpAny _ _ (do storeSet a es1 { t1 with plain := false }; _) _ _ _
    exact set_tail hgw ho hel1 hpm1 hb1 (SetTable.fits_plain_off hfits) (hmk.1.trans hled) rfl fun h' hsb hS' => wpAny_pure (h h' hsb hS')
  · rename_i hp1
    refine wpAny_bind (wpAny_pure ?_)
    simp only [↓reduceIte]
    exact set_tail hgw ho hel1 hpm1 hb1 hfits (hmk.1.trans hled) (by simpa using hp1) fun h' hsb hS' => wpAny_pure (h h' hsb hS')
end

section
variable {prog : Program} {w : World} {A : Around} {R : Result → Shared → Prop} {I : Addr} {fp wr : List Addr} {G : Array GenState → Array GenState → Prop} {n : Nat} {P : Nat → Value → Prop} {St : Nat → Shared → Prop}
theorem SetIs.at {h h' : Heap} {a : Addr} {l : List (Str × Tok)} (x : SetIs prog w h a l) (e : ∀ o, h.get? a = some o → h'.get? a = some o) : SetIs prog w h' a l := by
  obtain ⟨es, ep, tb, ho, r⟩ := x
  exact ⟨es, ep, tb, e _ ho, r⟩
theorem set_update_loop (W : WalksS prog w A.in1 I fp wr G n P St) (S : Addr) (hSf : S ∉ fp) (l : List (Str × Tok)) (hnl : n = l.length) (hval : ∀ i v, P i v → ∃ x, l[i]? = some x ∧ v = strO.val x) (hnd : (l.map (·.1)).Nodup) (hb : n + 1 < scanBound) :
    ∀ (k i : Nat) (s : Shared), n - i = k → i ≤ n → St i s → SetIs prog w s.heap S (l.take i) →
      (∀ s', Moved (S :: wr) G s s' → SetIs prog w s'.heap S l → R (.ok (.ret .none)) s') →
      codeAny (model prog w) A (.builtin "set.update.loop" ⟨[.ref S, .ref I], []⟩) R s := by
  have hSw : S ∉ wr := fun h => hSf (W.sub _ h)
  have hsub : ∀ b ∈ wr, b ∈ S :: wr := fun b hb => List.mem_cons_of_mem _ hb
  intro k
  induction k with
  | zero =>
    intro i s hk hi hst hS hR
    have hin : i = n := by lia
    subst hin
    refine codeAny_builtin PyProof.Rows.F.entry_set_update_loop ?_
    rw [Around.under_plainId PyProof.Rows.F.plain_set_update_loop _]
    show wpAny _ A.in1 (pyNext (.ref I) >>= _) _ _ s
    refine wpAny_bind (W.done s _ _ hst fun s' hm => ?_)
    show wpAny _ A.in1 (ret Value.none) _ _ s'
    rw [hnl, List.take_length] at hS
    exact wpAny_pure (hR s' (hm.mono hsub) (hS.at fun o e => hm.heap S _ hSw e))
  | succ k ih =>
    intro i s hk hi hst hS hR
    have hlt : i < n := by lia
    refine codeAny_builtin PyProof.Rows.F.entry_set_update_loop ?_
    rw [Around.under_plainId PyProof.Rows.F.plain_set_update_loop _]
    show wpAny _ A.in1 (pyNext (.ref I) >>= _) _ _ s
    refine wpAny_bind (W.item i s _ _ hlt hst fun v s' hP hst' hm => ?_)
    obtain ⟨x, hx, rfl⟩ := hval i v hP
    have hS' : SetIs prog w s'.heap S (l.take i) := hS.at fun o e => hm.heap S _ hSw e
    show wpAny _ A.in1 (holding [Value.str x.1 x.2] (setAdd S (.str x.1 x.2)) >>= _) _ _ s'
    refine wpAny_bind (wpAny_holding ?_)
    unfold setAdd
    refine wpAny_holding (wpAny_bind ((PySem.strKind prog w).pyHash (k := x.1) (strKind_is prog w x.1 x.2) ?_))
    have hxi : x.1 ∉ (l.take i).map (·.1) := by
      intro hmem
      rw [List.map_take] at hmem
      have h1 : (l.map (·.1))[i]? = some x.1 := by rw [List.getElem?_map, hx]; rfl
      obtain ⟨j, hj⟩ := List.mem_iff_getElem?.mp hmem
      rw [List.getElem?_take] at hj
      split at hj
      · rename_i hji
        have hjn : j < (l.map (·.1)).length := by rw [List.length_map]; lia
        have := (List.getElem?_inj hjn hnd).mp (hj.trans h1.symm)
        lia
      · cases hj
    have hlen : (l.take i).length = i := by rw [List.length_take]; lia
    refine set_add (s := { s' with toks := s'.toks + 1 }) hS' hxi (by rw [hlen]; lia) fun h' hsb hS2 => ?_
    have hSi : SetIs prog w h' S (l.take (i + 1)) := by rw [List.take_add_one, hx]; exact hS2
    refine wpAny_pure ⟨plainId_quiet PyProof.Rows.F.plain_set_update_loop _, ih (i + 1) _ (by lia) hlt (W.frame _ s' _ _ hst' (Nat.le_succ _) fun b hb o e => ?_) hSi fun s'' hm'' hS'' => ?_⟩
    · rw [hsb.2 b (fun h : b = S => hSf (by rw [← h]; exact hb))]; exact e
    · refine hR s'' (Moved.trans W.gtrans ((hm.mono hsub).then_heap (Nat.le_succ _) fun b o hb e => ?_) hm'') hS''
      rw [hsb.2 b (fun h : b = S => hb (by rw [h]; exact List.mem_cons_self))]; exact e
end

-- text: Sets2
/-- a set's object that holds just these texts -/
noncomputable def SetO (prog : Program) (w : World) (o : Obj) (l : List (Str × Tok)) : Prop :=
  ∃ es ep tb, o = { cls := .type "set", data := .set es ep tb } ∧ ElemsOf (PySem.strKind prog w) es.toList ∧ (es.toList.map (·.2)).Perm (l.map strO.val) ∧ es.size < scanBound ∧ tb.fits es.size = true ∧ (l = [] ∨ (tb.led = (!w.params.followText "set-order") ∧ tb.plain = false))
section
variable {prog : Program} {w : World} {A : Around} {E : Value → Shared → Prop} {s : Shared}
theorem code_set_led (a : Value) {Q₁ : Value → Shared → Prop}
    (h : Q₁ (.ref s.heap.objs.size) { s with heap := s.heap.push { cls := .type "set", dict := none, data := .set #[] 0 (.fresh 0 0 (!w.params.followText "set-order")) } }) :
    codeAny (model prog w) A (.call (.builtin "set.__new__") ⟨[.type "set", a], []⟩) (wants Q₁ E) s := by
  refine codeAny_of_tree ?_
  show wpAny _ A.in1 (do checkBuiltinCall "set.__new__" ⟨[.type "set", a], []⟩; again (.builtin "set.__new__" ⟨[.type "set", a], []⟩)) _ _ s
  refine wpAny_bind (wpAny_of_eq (PySem.F.newCall_set_1 a) (wpAny_pure ⟨plainId_quiet PySem.F.plain_set_new _, codeAny_builtin PySem.F.entry_set_new ?_⟩))
  rw [Around.under_plainId PySem.F.plain_set_new _]
  unfold Builtin.«set.__new__» Builtin.Frozenset.newClass
  have hsub := sub_set_self
  obtain ⟨hp, g, d, tk, os⟩ := s
  dsimp only
  wp_walk
  refine wpAny_askSetting (wpAny_pure ?_)
  dsimp only
  simp only [newObj]
  refine wpAny_bind (wpAny_alloc (wpAny_pure ?_))
  exact wpAny_pure h
theorem call_set_strs {l : Addr} {xs : List (Str × Tok)} {Q : Value → Shared → Prop}
    (hh : A.handled = none) (hl : s.heap.IsList l (xs.map strO.val).toArray) (hnd : (xs.map (·.1)).Nodup) (hb : xs.length + 1 < scanBound)
    (h : ∀ (h' : Heap) (tk : Nat), SetIs prog w h' s.heap.objs.size xs →
      (∀ b o, b < s.heap.objs.size → s.heap.get? b = some o → h'.get? b = some o) → Q (.ref s.heap.objs.size) { s with heap := h', toks := tk }) :
    wpAny (model prog w) A (call (.type "set") [.ref l]) Q E s := by
  obtain ⟨c, tl, hmro⟩ := PySem.F.called_set.mro
  have hmade := PySem.F.called_set.made
  have hsub := PySem.F.called_set.sub
  refine wpAny_call (codeAny_of_tree ?_)
  show wpAny _ _ (callAny (.type "set") _) _ _ _
  refine wpAny_pure ⟨Code.quiet_builtin _ (by decide +kernel), codeAny_builtin PySem.F.entry_type_call ?_⟩
  rw [Around.under_plain (weight_type_call_type "set" [.ref l] []) rfl]
  have h1 := PySem.F.called_set.notType
  have h2 := PySem.F.called_set.canCreate
  have hct := PySem.F.typeCall_set_1 (.ref l)
  repeat (any_goals (first | assumption | wp_step))
  generalize hled : (!w.params.followText "set-order") = led
  refine codeAny_mono (code_set_led (.ref l) (E := E) (Q₁ := fun obj s₁ => obj = .ref s.heap.objs.size ∧ s₁ = { s with heap := s.heap.push { cls := .type "set", dict := none, data := .set #[] 0 (.fresh 0 0 led) } }) ⟨rfl, by rw [hled]⟩) fun r s₁ hr => ?_
  cases r with
  | error e => exact hr
  | ok fl =>
    cases fl with
    | ret obj =>
      obtain ⟨rfl, rfl⟩ := hr
      have hS : (s.heap.push { cls := .type "set", dict := none, data := .set #[] 0 (.fresh 0 0 led) }).get? s.heap.objs.size = some { cls := .type "set", dict := none, data := .set #[] 0 (.fresh 0 0 led) } := Heap.get?_push_size _ rfl
      have hT : Shared.TypeIs { s with heap := s.heap.push { cls := .type "set", dict := none, data := .set #[] 0 (.fresh 0 0 led) } } (.ref s.heap.objs.size) "set" := ⟨_, hS, rfl⟩
      have hli := PySem.F.called_set.init.lookup
      have hbi := PySem.F.called_set.init.bind (.ref s.heap.objs.size)
      repeat (any_goals (first | assumption | wp_step))
      refine codeAny_mono (codeAny_call_builtin (R := wants (fun r s₂ => r = .none ∧ ∃ h' tk, s₂ = { s with heap := h', toks := tk } ∧ SetIs prog w h' s.heap.objs.size xs ∧
          (∀ b o, b < s.heap.objs.size → s.heap.get? b = some o → h'.get? b = some o)) E) PySem.F.called_set.init.plain PySem.F.entry_set_init (check_set_init_1 hT ?_)) fun r₂ s₂ hr₂ => ?_
      · obtain ⟨ol, hol, hcl, nl, hdl⟩ := hl
        obtain ⟨ocls, odict, odata, oslots⟩ := ol
        simp only at hcl hdl
        subst hcl; subst hdl
        have hol' : (s.heap.push { cls := .type "set", dict := none, data := .set #[] 0 (.fresh 0 0 led) }).get? l = some { cls := .type "list", dict := odict, data := .seq (xs.map strO.val).toArray nl, slots := oslots } := Heap.get?_push_of_some _ hol
        have hsls := PySem.F.sub_list_set
        have hslf := PySem.F.sub_list_frozenset
        have hne : (Value.type "list" == Value.type "dict") = false := by decide
        have hl1 : (s.heap.push { cls := .type "set", dict := none, data := .set #[] 0 (.fresh 0 0 led) }).IsList l (xs.map strO.val).toArray := ⟨_, hol', rfl, nl, rfl⟩
        unfold Builtin.«set.__init__» noKeywords Builtin.Frozenset.updateFrom
        generalize hPI : pyIter = PI
        wp_walk
        subst hPI
        refine wpAny_pyIter_list hl1 ?_
        refine wpAny_bind (wpAny_runValue ?_)
        have hlS : l < s.heap.objs.size := Heap.lt_size hol
        have hh3 : A.in1.in1.in1.handled = none := by simp [hh]
        have hneI : l ≠ (s.heap.push { cls := .type "set", dict := none, data := .set #[] 0 (.fresh 0 0 led) }).objs.size := by
          rw [Heap.size_push]; exact Nat.ne_of_lt (Nat.lt_succ_of_lt hlS)
        have hSf : s.heap.objs.size ∉ [(s.heap.push { cls := .type "set", dict := none, data := .set #[] 0 (.fresh 0 0 led) }).objs.size, l] := by
          rw [Heap.size_push]; simp only [List.mem_cons, List.mem_singleton, List.not_mem_nil, or_false, not_or]
          exact ⟨Nat.ne_of_lt (Nat.lt_succ_self _), Nat.ne_of_gt hlS⟩
        have hsz : (xs.map strO.val).toArray.size = xs.length := by simp
        have hval : ∀ (i : Nat) (v : Value), (xs.map strO.val).toArray[i]? = some v → ∃ x, xs[i]? = some x ∧ v = strO.val x := fun i v hv => by
          simp only [List.getElem?_toArray, List.getElem?_map, Option.map_eq_some_iff] at hv
          obtain ⟨x, hx, rfl⟩ := hv
          exact ⟨x, hx, rfl⟩
        refine set_update_loop ((Walks.list hh3 _ l hneI (xs.map strO.val).toArray).toS) s.heap.objs.size
          hSf xs hsz hval hnd (by rw [hsz]; exact hb) (xs.length - 0) 0 _ (by omega) (Nat.zero_le _)
          ⟨⟨_, Heap.get?_push_size _ rfl, rfl, rfl⟩, (hl1.push _)⟩ ?hS0 ?hR
        case hS0 =>
          have hget : ((s.heap.push { cls := .type "set", dict := none, data := .set #[] 0 (.fresh 0 0 led) }).push { cls := .type "list_iterator", data := .fields #[.ref l, .int 0 0] }).get? s.heap.objs.size
              = some { cls := .type "set", dict := none, data := .set #[] 0 (.fresh 0 0 led) } := Heap.get?_push_of_some _ hS
          exact ⟨#[], 0, .fresh 0 0 led, hget, (fun _ he => nomatch he), .nil, by unfold scanBound; decide, rfl, hled.symm, .inl rfl⟩
        case hR =>
          intro s' hm hS'
          obtain ⟨h', g', d', tk', os'⟩ := s'
          have eg : g' = s.gens := hm.gens
          have ed : d' = s.drawn := hm.drawn
          have eo : os' = s.os := hm.os
          subst eg; subst ed; subst eo
          show wpAny _ _ _ _ _ _
          refine wpAny_pure ?_
          show wpAny _ _ (ret Value.none) _ _ _
          refine wpAny_pure ⟨rfl, h', tk', rfl, hS', fun b o hb e => ?_⟩
          have hb1 : b ≠ s.heap.objs.size := Nat.ne_of_lt hb
          have hb2 : b ≠ (s.heap.push { cls := .type "set", dict := none, data := .set #[] 0 (.fresh 0 0 led) }).objs.size := by
            rw [Heap.size_push]; exact Nat.ne_of_lt (Nat.lt_succ_of_lt hb)
          exact hm.heap b o (by simp only [List.mem_cons, List.mem_singleton, List.not_mem_nil, or_false, not_or]; exact ⟨hb1, hb2⟩) (Heap.get?_push_of_some _ (Heap.get?_push_of_some _ e))
      · cases r₂ with
        | error e => exact hr₂
        | ok fl₂ =>
          cases fl₂ with
          | ret r =>
            obtain ⟨rfl, h', tk, rfl, hS', hk'⟩ := hr₂
            repeat (any_goals (first | assumption | wp_step))
            exact h _ _ hS' hk'
          | _ => exact hr₂.elim
    | _ => exact hr.elim
end
section
variable {prog : Program} {w : World} {A : Around} {E : Value → Shared → Prop} {s : Shared} {h₀ : Heap} {L : Addr} {m : Str → Option Value} {news : Led} {n : Nat}
theorem set_led_new {l : Addr} {xs : List (Str × Tok)} {Q : Value → Shared → Prop} (F : Fr h₀ L s.heap m) (N : News h₀ L s.heap news) (hh : A.handled = none) (hm : (l, listOf (xs.map strO.val).toArray n) ∈ news) (hnd : (xs.map (·.1)).Nodup) (hb : xs.length + 1 < scanBound)
    (h : ∀ D h' tk o, Fr h₀ L h' m → News h₀ L h' ((D, o) :: news) → AllLt D news → SetO prog w o xs → Q (.ref D) { s with heap := h', toks := tk }) : wpAny (model prog w) A (call (.type "set") [.ref l]) Q E s := by
  have hl := PySem.IsL.isList (n := n) (N _ hm).1
  refine call_set_strs hh hl hnd hb fun h' tk hS hk => ?_
  obtain ⟨es, ep, tb, ho, h1, h2, h3, h4, h5, h6⟩ := hS
  obtain ⟨oL, _, _, hL, _⟩ := F.ns
  have hLlt : L < s.heap.objs.size := Heap.lt_size hL
  refine h _ h' tk _ ⟨F.ns.at' fun o' e => hk L o' hLlt e, fun b o' e => hk b o' (Heap.lt_size (F.keep b o' e)) (F.keep b o' e), F.above⟩ (fun p hp => ?_) (allLt_of fun p hp => Heap.lt_size (N p hp).1) ⟨es, ep, tb, rfl, h1, h2, h3, h4, h6.imp id fun e => ⟨h5, e⟩⟩
  rcases List.mem_cons.mp hp with rfl | hp
  · refine ⟨ho, Nat.ne_of_gt hLlt, ?_⟩
    cases hq : h₀.get? s.heap.objs.size with
    | none => rfl
    | some o' => exact absurd (Heap.lt_size (F.keep _ _ hq)) (Nat.lt_irrefl _)
  · exact ⟨hk _ _ (Heap.lt_size (N p hp).1) (N p hp).1, (N p hp).2.1, (N p hp).2.2⟩
end

-- text: Sets3
theorem slot_setiter_next : Slot "set_iterator" "__next__" "set_iterator.__next__" :=
  .of (owner := "set_iterator") (n := "__next__") (by rw [typeLookup_type, builtinLookup_eq_fast]; kernel_rfl) (by decide +kernel) (by decide +kernel) (by decide +kernel)
    (by first | exact .inl (by decide +kernel) | exact .inr (by decide +kernel)) (by rw [isSubtype_type]; kernel_rfl)
theorem entry_setiter_next : entryFor table "set_iterator.__next__" = some Builtin.«set_iterator.__next__» := entryFor_of_tree (by kernel_rfl)
theorem owner_setiter : Manifest.owners.lookup (String.ofList "set_iterator".toList.reverse.reverse) = some Manifest.sig_set_iterator := by kernel_rfl
theorem args_setiter_next (a : Value) : argsOk "set_iterator.__next__" ⟨[a], []⟩ := by
  unfold argsOk; rw [signature?_of (id := "set_iterator.__next__") (n := "__next__".toList.reverse) (o := "set_iterator".toList.reverse) (by kernel_rfl) owner_setiter]; kernel_rfl
theorem entry_set_iter : entryFor table "set.__iter__" = some Builtin.«frozenset.__iter__» :=
  entryFor_alias (id' := "frozenset.__iter__") (by rw [fastTable_eq_tree]; kernel_rfl) rfl (by decide +kernel) (by rw [fastTable_eq_tree]; kernel_rfl)
section
variable {prog : Program} {w : World} {A : Around} {E : Value → Shared → Prop} {s : Shared}
/-- a set iterator's object -/
noncomputable abbrev setIt (first : Value) (i : Nat) (a : Addr) (n ep : Nat) : Obj := { cls := .type "set_iterator", data := .fields #[first, rawInt (i : Nat), .ref a, rawInt (n : Nat), rawInt (ep : Nat)] }
theorem raise_stop {Q : Option Value → Shared → Prop} {Qf : Fin → Shared → Prop} (hh : A.handled = none) (hQ : ∀ h', (∀ b o, s.heap.get? b = some o → h'.get? b = some o) → Q none { s with heap := h' }) :
    wpAny (model prog w) A.in1 (newExc (.type "StopIteration") [] >>= raiseNew) Qf (fun e s' => wpAny (model prog w) A (do if (← isInstance e (.type "StopIteration")) then pure none else throw e) Q E s') s := by
  refine wpAny_bind ?_
  simp only [newExc, newTuple]
  refine wpAny_bind (wpAny_newObj_type ?_ (by size_fits))
  refine wpAny_bind (m := firstArgMember _ _) (wpAny_of_eq (a := Value.none) (by first | rfl | (simp only [firstArgMember]; rfl)) ?_)
  refine wpAny_newObj_type ?_ (by size_fits)
  simp only [raiseNew]
  refine wpAny_bind (wpAny_handled ?_)
  rw [show A.in1.handled = none from hh]
  refine wpAny_bind (wpAny_pure (wpAny_throw ?_))
  refine wpAny_bind (wpAny_isInstance (T := "StopIteration") (b := true) ⟨_, Heap.get?_push_size _ rfl, rfl⟩ isSubtype_stop ?_)
  exact wpAny_pure (hQ _ fun b o e => Heap.get?_push_of_some _ (Heap.get?_push_of_some _ e))
theorem field_set {I : Addr} {vs : Array Value} {j : Nat} {v : Value} {Q : Unit → Shared → Prop} (hI : s.heap.get? I = some { cls := .type "set_iterator", data := .fields vs }) (hj : j < vs.size)
    (h : ∀ h', h'.get? I = some { cls := .type "set_iterator", data := .fields (vs.setIfInBounds j v) } → Heap.SameBut I s.heap h' → Q () { s with heap := h' }) : wpAny (model prog w) A (setField (.ref I) j v) Q E s :=
  wpAny_setField hI rfl hj (h _ (Heap.get?_update_self _ hI rfl) (Heap.SameBut.update ..))
theorem setNext_text {a : Addr} {i n ep : Nat} {o : Obj} {es : Array (Int × Value)} {tb : SetTable} {slot : Nat} {Q : Option (Value × Nat) → Shared → Prop} (ha : s.heap.get? a = some o) (hd : o.data = .set es ep tb) (hf : tb.fits es.size = true) (hn : es.size = n) (ht : w.params.followText "set-order" = true) (h : Q (((pickOrder (w.params.setOrder a ep) es)[i]?).map fun e => (e.2, slot)) s) :
    wpAny (model prog w) A (setNext a slot i ep) Q E s := by
  unfold setNext
  refine wpAny_bind (wpAny_setState_of ha hd hf ?_)
  dsimp only
  refine wpAny_bind (m := setsByText) (wpAny_bind (wpAny_askSetting (wpAny_pure ?_)))
  show wpAny _ _ (if w.params.followText "set-order" = true then _ else _) _ _ _
  rw [if_pos ht]
  simp only [bne_self_eq_false, Bool.false_eq_true, if_false]
  unfold setWalk
  refine wpAny_bind (wpAny_bind (wpAny_setState_of ha hd hf ?_))
  dsimp only
  refine wpAny_bind (m := setsByText) (wpAny_bind (wpAny_askSetting (wpAny_pure ?_)))
  show wpAny _ _ (if w.params.followText "set-order" = true then _ else _) _ _ _
  rw [if_pos ht]
  refine wpAny_bind (wpAny_askSetting (wpAny_pure ?_))
  exact wpAny_pure h
theorem setit_text {I a : Addr} {i n ep : Nat} {o : Obj} {es : Array (Int × Value)} {tb : SetTable} {x : Int × Value} {Q : Option Value → Shared → Prop} (hI : s.heap.get? I = some (setIt (rawInt 0) i a n ep)) (ha : s.heap.get? a = some o) (hd : o.data = .set es ep tb) (hf : tb.fits es.size = true) (hn : es.size = n) (ht : w.params.followText "set-order" = true) (hx : (pickOrder (w.params.setOrder a ep) es)[i]? = some x)
    (hQ : ∀ h', h'.get? I = some (setIt (rawInt 0) (i + 1) a n ep) → Heap.SameBut I s.heap h' → Q (some x.2) { s with heap := h' }) :
    wpAny (model prog w) A (pyNext (.ref I)) Q E s := by
  have hT : s.TypeIs (.ref I) "set_iterator" := ⟨_, hI, rfl⟩
  unfold pyNext
  refine wpAny_bind (wpAny_attempt (wpAny_callSpecial?_slot (name := Str.ofString "__next__") hT slot_setiter_next (wpAny_call_entry slot_setiter_next hT entry_setiter_next ?_ (args_setiter_next _))))
  unfold Builtin.«set_iterator.__next__»
  refine wpAny_bind (wpAny_of_eq (a := (Value.ref I, [])) rfl ?_)
  refine wpAny_bind (wpAny_fieldsOf hI rfl ?_)
  simp only [rawInt]
  refine wpAny_bind (wpAny_setEntries_of ha hd hf ?_)
  rw [hn]
  simp only [bne_self_eq_false, Bool.false_eq_true, if_false]
  simp only [Int.toNat_natCast]
  refine wpAny_bind (setNext_text ha hd hf hn ht ?_)
  rw [hx]
  dsimp only [Option.map]
  refine wpAny_bind (field_set hI (by simp) fun h1 hI1 hs1 => wpAny_bind (field_set (s := { s with heap := h1 }) hI1 (by simp) fun h2 hI2 hs2 => ?_))
  exact wpAny_pure ⟨_, rfl, wpAny_pure (hQ h2 hI2 (hs1.trans hs2))⟩
theorem setit_text_end {I a : Addr} {i n ep : Nat} {o : Obj} {es : Array (Int × Value)} {tb : SetTable} {Q : Option Value → Shared → Prop} (hh : A.handled = none) (hI : s.heap.get? I = some (setIt (rawInt 0) i a n ep)) (ha : s.heap.get? a = some o) (hd : o.data = .set es ep tb) (hf : tb.fits es.size = true) (hn : es.size = n) (ht : w.params.followText "set-order" = true) (hx : (pickOrder (w.params.setOrder a ep) es)[i]? = none)
    (hQ : ∀ h', (∀ b o, b ≠ I → s.heap.get? b = some o → h'.get? b = some o) → Q none { s with heap := h' }) :
    wpAny (model prog w) A (pyNext (.ref I)) Q E s := by
  have hT : s.TypeIs (.ref I) "set_iterator" := ⟨_, hI, rfl⟩
  unfold pyNext
  refine wpAny_bind (wpAny_attempt (wpAny_callSpecial?_slot (name := Str.ofString "__next__") hT slot_setiter_next (wpAny_call_entry slot_setiter_next hT entry_setiter_next ?_ (args_setiter_next _))))
  unfold Builtin.«set_iterator.__next__»
  refine wpAny_bind (wpAny_of_eq (a := (Value.ref I, [])) rfl ?_)
  refine wpAny_bind (wpAny_fieldsOf hI rfl ?_)
  simp only [rawInt]
  refine wpAny_bind (wpAny_setEntries_of ha hd hf ?_)
  rw [hn]
  simp only [bne_self_eq_false, Bool.false_eq_true, if_false]
  simp only [Int.toNat_natCast]
  refine wpAny_bind (setNext_text ha hd hf hn ht ?_)
  rw [hx]
  dsimp only [Option.map]
  refine wpAny_bind (field_set hI (by simp) fun h1 hI1 hs1 => raise_stop (s := { s with heap := h1 }) hh fun h2 k2 => hQ h2 fun b o hb e => k2 b o (hs1.extBut b o hb e))
theorem below_zero {xs : Array Nat} (h : xs.size ≤ 1) : SetTable.below xs 0 = 0 := by
  unfold SetTable.below
  rcases Nat.lt_or_ge 0 xs.size with h1 | h1
  · have e : xs.size = 1 := by lia
    rw [e]; simp [SetTable.below.go]
  · have e : xs.size = 0 := by lia
    rw [e]; simp [SetTable.below.go]
theorem below_one {xs : Array Nat} {j : Nat} (h : xs.size = 1) (hj : xs[0]? = some j) : SetTable.below xs (j + 1) = 1 := by
  unfold SetTable.below
  rw [h]
  have e : xs.getD 0 (j + 1) = j := by rw [Array.getD_eq_getD_getElem?, hj]; rfl
  simp [SetTable.below.go, e]
theorem setNext_plain {a : Addr} {i n ep : Nat} {o : Obj} {es : Array (Int × Value)} {tb : SetTable} {slot : Nat} {Q : Option (Value × Nat) → Shared → Prop} (ha : s.heap.get? a = some o) (hd : o.data = .set es ep tb) (hf : tb.fits es.size = true) (hn : es.size = n) (ht : w.params.followText "set-order" = false) (h1 : n ≤ 1) (hl : es.isEmpty = true ∨ tb.led = true) (h : Q (match es[SetTable.below tb.place slot]?, tb.place[SetTable.below tb.place slot]? with | some (_, x), some j => some (x, j + 1) | _, _ => none) s) :
    wpAny (model prog w) A (setNext a slot i ep) Q E s := by
  unfold setNext
  refine wpAny_bind (wpAny_setState_of ha hd hf ?_)
  dsimp only
  refine wpAny_bind (m := setsByText) (wpAny_bind (wpAny_askSetting (wpAny_pure ?_)))
  show wpAny _ _ (if w.params.followText "set-order" = true then _ else _) _ _ _
  rw [if_neg (by rw [ht]; exact Bool.false_ne_true)]
  show wpAny _ _ (if (!tb.plain && decide (es.size > 1)) = true then _ else _) _ _ _
  rw [if_neg (by rw [hn, decide_eq_false (by lia), Bool.and_false]; exact Bool.false_ne_true)]
  refine wpAny_bind ?_
  show wpAny _ _ (if (!tb.led && !es.isEmpty) = true then _ else _) _ _ _
  rw [if_neg (by rcases hl with e | e <;> rw [e] <;> simp)]
  exact wpAny_pure (wpAny_pure h)
theorem setit_plain {I a : Addr} {i n ep : Nat} {o : Obj} {es : Array (Int × Value)} {tb : SetTable} {first : Nat} {x : Int × Value} {j : Nat} {Q : Option Value → Shared → Prop} (hI : s.heap.get? I = some (setIt (rawInt first) i a n ep)) (ha : s.heap.get? a = some o) (hd : o.data = .set es ep tb) (hf : tb.fits es.size = true) (hn : es.size = n) (ht : w.params.followText "set-order" = false) (h1 : n ≤ 1) (hl : es.isEmpty = true ∨ tb.led = true) (hx : es[SetTable.below tb.place first]? = some x) (hj : tb.place[SetTable.below tb.place first]? = some j)
    (hQ : ∀ h', h'.get? I = some (setIt (rawInt ((j + 1 : Nat) : Int)) (i + 1) a n ep) → Heap.SameBut I s.heap h' → Q (some x.2) { s with heap := h' }) :
    wpAny (model prog w) A (pyNext (.ref I)) Q E s := by
  have hT : s.TypeIs (.ref I) "set_iterator" := ⟨_, hI, rfl⟩
  unfold pyNext
  refine wpAny_bind (wpAny_attempt (wpAny_callSpecial?_slot (name := Str.ofString "__next__") hT slot_setiter_next (wpAny_call_entry slot_setiter_next hT entry_setiter_next ?_ (args_setiter_next _))))
  unfold Builtin.«set_iterator.__next__»
  refine wpAny_bind (wpAny_of_eq (a := (Value.ref I, [])) rfl ?_)
  refine wpAny_bind (wpAny_fieldsOf hI rfl ?_)
  simp only [rawInt]
  refine wpAny_bind (wpAny_setEntries_of ha hd hf ?_)
  rw [hn]
  simp only [bne_self_eq_false, Bool.false_eq_true, if_false]
  simp only [Int.toNat_natCast]
  refine wpAny_bind (setNext_plain ha hd hf hn ht h1 hl ?_)
  rw [hx, hj]
  dsimp only
  refine wpAny_bind (field_set hI (by simp) fun h1 hI1 hs1 => wpAny_bind (field_set (s := { s with heap := h1 }) hI1 (by simp) fun h2 hI2 hs2 => ?_))
  exact wpAny_pure ⟨_, rfl, wpAny_pure (hQ h2 hI2 (hs1.trans hs2))⟩
theorem setit_plain_end {I a : Addr} {i n ep : Nat} {o : Obj} {es : Array (Int × Value)} {tb : SetTable} {first : Nat} {Q : Option Value → Shared → Prop} (hh : A.handled = none) (hI : s.heap.get? I = some (setIt (rawInt first) i a n ep)) (ha : s.heap.get? a = some o) (hd : o.data = .set es ep tb) (hf : tb.fits es.size = true) (hn : es.size = n) (ht : w.params.followText "set-order" = false) (h1 : n ≤ 1) (hl : es.isEmpty = true ∨ tb.led = true) (hx : es[SetTable.below tb.place first]? = none)
    (hQ : ∀ h', (∀ b o, b ≠ I → s.heap.get? b = some o → h'.get? b = some o) → Q none { s with heap := h' }) :
    wpAny (model prog w) A (pyNext (.ref I)) Q E s := by
  have hT : s.TypeIs (.ref I) "set_iterator" := ⟨_, hI, rfl⟩
  unfold pyNext
  refine wpAny_bind (wpAny_attempt (wpAny_callSpecial?_slot (name := Str.ofString "__next__") hT slot_setiter_next (wpAny_call_entry slot_setiter_next hT entry_setiter_next ?_ (args_setiter_next _))))
  unfold Builtin.«set_iterator.__next__»
  refine wpAny_bind (wpAny_of_eq (a := (Value.ref I, [])) rfl ?_)
  refine wpAny_bind (wpAny_fieldsOf hI rfl ?_)
  simp only [rawInt]
  refine wpAny_bind (wpAny_setEntries_of ha hd hf ?_)
  rw [hn]
  simp only [bne_self_eq_false, Bool.false_eq_true, if_false]
  simp only [Int.toNat_natCast]
  refine wpAny_bind (setNext_plain ha hd hf hn ht h1 hl ?_)
  rw [hx]
  dsimp only
  refine wpAny_bind (field_set hI (by simp) fun h1 hI1 hs1 => raise_stop (s := { s with heap := h1 }) hh fun h2 k2 => hQ h2 fun b o hb e => k2 b o (hs1.extBut b o hb e))
theorem setit_drawn {I a : Addr} {i n ep : Nat} {o : Obj} {es : Array (Int × Value)} {tb : SetTable} {T : Addr} {oT : Obj} {ps : List Nat} {q nT : Nat} {x : Int × Value} {Q : Option Value → Shared → Prop} (hI : s.heap.get? I = some (setIt (.ref T) i a n ep)) (ha : s.heap.get? a = some o) (hd : o.data = .set es ep tb) (hf : tb.fits es.size = true) (hn : es.size = n) (hT' : s.heap.get? T = some oT) (hdT : oT.data = .seq (ps.map fun (i : Nat) => rawInt i).toArray nT) (hq : ps[i]? = some q) (hx : es[q]? = some x)
    (hQ : ∀ h', h'.get? I = some (setIt (.ref T) (i + 1) a n ep) → Heap.SameBut I s.heap h' → Q (some x.2) { s with heap := h' }) :
    wpAny (model prog w) A (pyNext (.ref I)) Q E s := by
  have hT : s.TypeIs (.ref I) "set_iterator" := ⟨_, hI, rfl⟩
  unfold pyNext
  refine wpAny_bind (wpAny_attempt (wpAny_callSpecial?_slot (name := Str.ofString "__next__") hT slot_setiter_next (wpAny_call_entry slot_setiter_next hT entry_setiter_next ?_ (args_setiter_next _))))
  unfold Builtin.«set_iterator.__next__»
  refine wpAny_bind (wpAny_of_eq (a := (Value.ref I, [])) rfl ?_)
  refine wpAny_bind (wpAny_fieldsOf hI rfl ?_)
  simp only [rawInt]
  refine wpAny_bind (wpAny_setEntries_of ha hd hf ?_)
  rw [hn]
  simp only [bne_self_eq_false, Bool.false_eq_true, if_false]
  refine wpAny_bind (wpAny_seqItems hT' hdT ?_)
  simp only [Int.toNat_natCast, List.getElem?_toArray, List.getElem?_map, hq, Option.map_some, rawInt]
  unfold setNextDrawn
  refine wpAny_bind (wpAny_bind (wpAny_setState_of ha hd hf ?_))
  simp only [bne_self_eq_false, Bool.false_eq_true, if_false, hx]
  refine wpAny_pure (wpAny_bind (field_set hI (by simp) fun h2 hI2 hs2 => ?_))
  exact wpAny_pure ⟨_, rfl, wpAny_pure (hQ h2 hI2 hs2)⟩
theorem setit_drawn_end {I a : Addr} {i n ep : Nat} {o : Obj} {es : Array (Int × Value)} {tb : SetTable} {T : Addr} {oT : Obj} {ps : List Nat} {nT : Nat} {Q : Option Value → Shared → Prop} (hh : A.handled = none) (hI : s.heap.get? I = some (setIt (.ref T) i a n ep)) (ha : s.heap.get? a = some o) (hd : o.data = .set es ep tb) (hf : tb.fits es.size = true) (hn : es.size = n) (hT' : s.heap.get? T = some oT) (hdT : oT.data = .seq (ps.map fun (i : Nat) => rawInt i).toArray nT) (hq : ps[i]? = none)
    (hQ : ∀ h', (∀ b o, b ≠ I → s.heap.get? b = some o → h'.get? b = some o) → Q none { s with heap := h' }) :
    wpAny (model prog w) A (pyNext (.ref I)) Q E s := by
  have hT : s.TypeIs (.ref I) "set_iterator" := ⟨_, hI, rfl⟩
  unfold pyNext
  refine wpAny_bind (wpAny_attempt (wpAny_callSpecial?_slot (name := Str.ofString "__next__") hT slot_setiter_next (wpAny_call_entry slot_setiter_next hT entry_setiter_next ?_ (args_setiter_next _))))
  unfold Builtin.«set_iterator.__next__»
  refine wpAny_bind (wpAny_of_eq (a := (Value.ref I, [])) rfl ?_)
  refine wpAny_bind (wpAny_fieldsOf hI rfl ?_)
  simp only [rawInt]
  refine wpAny_bind (wpAny_setEntries_of ha hd hf ?_)
  rw [hn]
  simp only [bne_self_eq_false, Bool.false_eq_true, if_false]
  refine wpAny_bind (wpAny_seqItems hT' hdT ?_)
  simp only [Int.toNat_natCast, List.getElem?_toArray, List.getElem?_map, hq, Option.map_none, rawInt]
  refine wpAny_bind (field_set hI (by simp) fun h0 hI0 hs0 => wpAny_bind (field_set (s := { s with heap := h0 }) hI0 (by simp) fun h1 hI1 hs1 => raise_stop (s := { s with heap := h1 }) hh fun h2 k2 => hQ h2 fun b o hb e => k2 b o ((hs0.trans hs1).extBut b o hb e)))
end

-- text: Sets4
theorem erase_perm {α : Type} {l : List α} {i : Nat} (h : i < l.length) : (l[i] :: l.eraseIdx i).Perm l := by
  rw [List.eraseIdx_eq_take_drop_succ]
  refine List.perm_middle.symm.trans ?_
  rw [← List.drop_eq_getElem_cons h, List.take_append_drop]
theorem pick_go {α : Type} (next : Nat → Nat) : ∀ (n k : Nat) (left : List α) (out : Array α), left.length = n → (pickOrder.go next n k left out).toList.Perm (out.toList ++ left) := by
  intro n
  induction n with
  | zero => intro k left out h; have e : left = [] := List.length_eq_zero_iff.mp h; subst e; simp [pickOrder.go]
  | succ n ih =>
    intro k left out h
    have hlt : next k % left.length < left.length := Nat.mod_lt _ (by lia)
    unfold pickOrder.go
    rw [List.getElem?_eq_getElem hlt]
    refine (ih (k + 1) _ _ (by rw [List.length_eraseIdx]; split <;> lia)).trans ?_
    rw [Array.toList_push, List.append_assoc]
    refine List.Perm.append_left _ ?_
    have := erase_perm hlt
    exact this
theorem pick_perm {α : Type} (next : Nat → Nat) (xs : Array α) : (pickOrder next xs).toList.Perm xs.toList := by
  have := pick_go next xs.size 0 xs.toList #[] rfl
  rw [List.nil_append] at this
  exact this
section
variable {prog : Program} {w : World} {A : Around} {E : Value → Shared → Prop} {s : Shared}
theorem any_choose {src : Source} {n : Nat} {Q : Nat → Shared → Prop} (hn : n ≠ 0) (h : ∀ i d, i < n → Q i { s with drawn := d }) : wpAny (model prog w) A (choose src n) Q E s :=
  fun _ _ _ => ⟨hn, h _ _ (Nat.mod_lt _ (Nat.pos_of_ne_zero hn))⟩
theorem draw_perm {α : Type} : ∀ (n : Nat) (xs : List α) (s : Shared) (Q : List α → Shared → Prop), xs.length = n → (∀ ys d, ys.Perm xs → Q ys { s with drawn := d }) → wpAny (model prog w) A (drawOrder n xs) Q E s := by
  intro n
  induction n with
  | zero =>
    intro xs s Q hl h
    have e : xs = [] := List.length_eq_zero_iff.mp hl
    subst e
    exact wpAny_pure (h [] s.drawn .nil)
  | succ n ih =>
    intro xs s Q hl h
    cases xs with
    | nil => cases hl
    | cons x xs =>
      show wpAny _ _ (choose .order (x :: xs).length >>= _) _ _ _
      refine wpAny_bind (any_choose (by simp) fun i d hi => ?_)
      rw [List.getElem?_eq_getElem hi]
      dsimp only
      refine wpAny_bind (ih _ _ _ (by rw [List.length_eraseIdx]; split <;> simp_all) fun ys d' hp => ?_)
      exact wpAny_pure (h _ _ ((hp.cons _).trans (erase_perm hi)))
end
section
variable {prog : Program} {w : World} {A : Around} {E : Value → Shared → Prop} {s : Shared}
theorem ret_newIt {first : Value} {a : Addr} {n ep : Nat} {o : Obj} {es : Array (Int × Value)} {tb : SetTable} {Q : Value → Shared → Prop} (ha : s.heap.get? a = some o) (hd : o.data = .set es ep tb) (hf : tb.fits es.size = true)
    (h : Q (.ref s.heap.objs.size) { s with heap := s.heap.push (setIt first 0 a n ep) }) :
    wpAny (model prog w) A.in1 (do ret (← newFields "set_iterator" [first, rawInt 0, .ref a, rawInt n, rawInt (← setEpoch a)])) (fun fin s' => ∃ v, fin = Fin.done (Flow.ret v) ∧ ∃ T' r, s'.TypeIs v T' ∧ typeLookup (.type T') "__next__" = pure (some r) ∧ Q v s') E s := by
  refine wpAny_bind (wpAny_setEpoch_of ha hd hf (wpAny_bind (wpAny_newObj_type ?_)))
  exact wpAny_pure ⟨_, rfl, "set_iterator", _, ⟨_, Heap.get?_push_size _ rfl, rfl⟩, slot_setiter_next.lookup, h⟩
theorem setDrawn_of {a : Addr} {o : Obj} {es : Array (Int × Value)} {ep : Nat} {tb : SetTable} {Q : Bool → Shared → Prop} (ha : s.heap.get? a = some o) (hd : o.data = .set es ep tb) (hf : tb.fits es.size = true) (h : Q (!w.params.followText "set-order" && (!tb.plain && decide (es.size > 1))) s) :
    wpAny (model prog w) A (setDrawn a) Q E s := by
  unfold setDrawn
  refine wpAny_bind (wpAny_setState_of ha hd hf ?_)
  dsimp only
  refine wpAny_bind (m := setsByText) (wpAny_bind (wpAny_askSetting (wpAny_pure ?_)))
  exact wpAny_pure h
theorem iter_setP {a : Addr} {o : Obj} {es : Array (Int × Value)} {ep : Nat} {tb : SetTable} {Q : Value → Shared → Prop} (ha : s.heap.get? a = some o) (hc : o.cls = .type "set") (hd : o.data = .set es ep tb) (hf : tb.fits es.size = true) (hm : w.params.followText "set-order" = true ∨ es.size ≤ 1)
    (h : Q (.ref s.heap.objs.size) { s with heap := s.heap.push (setIt (rawInt 0) 0 a es.size ep) }) : wpAny (model prog w) A (pyIter (.ref a)) Q E s := by
  have hT : s.TypeIs (.ref a) "set" := ⟨_, ha, hc⟩
  refine wpAny_pyIter_slot hT PySem.F.slot_set_iter (wpAny_call_entry PySem.F.slot_set_iter hT entry_set_iter ?_ (PySem.F.args_set_iter_1 _))
  unfold Builtin.«frozenset.__iter__»
  refine wpAny_bind (wpAny_of_eq (a := a) rfl ?_)
  refine wpAny_bind (m := Builtin.Frozenset.sizeOf a) (wpAny_bind (wpAny_setEntries_of ha hd hf (wpAny_pure ?_)))
  refine wpAny_bind (setDrawn_of ha hd hf ?_)
  have e : (!w.params.followText "set-order" && (!tb.plain && decide (es.size > 1))) = false := by
    rcases hm with e | e
    · rw [e]; rfl
    · rw [decide_eq_false (by lia), Bool.and_false, Bool.and_false]
  rw [e]
  exact ret_newIt ha hd hf h
theorem iter_setD {a : Addr} {o : Obj} {es : Array (Int × Value)} {ep : Nat} {tb : SetTable} {Q : Value → Shared → Prop} (ha : s.heap.get? a = some o) (hc : o.cls = .type "set") (hd : o.data = .set es ep tb) (hf : tb.fits es.size = true) (hz : es.size < scanBound) (hm : (!w.params.followText "set-order" && (!tb.plain && decide (es.size > 1))) = true)
    (h : ∀ (ps : List Nat) d, ps.Perm (List.range es.size) → Q (.ref (s.heap.objs.size + 1)) { s with drawn := d, heap := (s.heap.push { cls := .type "tuple", data := .seq (ps.map fun (i : Nat) => rawInt i).toArray }).push (setIt (.ref s.heap.objs.size) 0 a es.size ep) }) : wpAny (model prog w) A (pyIter (.ref a)) Q E s := by
  have hT : s.TypeIs (.ref a) "set" := ⟨_, ha, hc⟩
  refine wpAny_pyIter_slot hT PySem.F.slot_set_iter (wpAny_call_entry PySem.F.slot_set_iter hT entry_set_iter ?_ (PySem.F.args_set_iter_1 _))
  unfold Builtin.«frozenset.__iter__»
  refine wpAny_bind (wpAny_of_eq (a := a) rfl ?_)
  refine wpAny_bind (m := Builtin.Frozenset.sizeOf a) (wpAny_bind (wpAny_setEntries_of ha hd hf (wpAny_pure ?_)))
  refine wpAny_bind (setDrawn_of ha hd hf ?_)
  rw [hm]
  refine wpAny_bind (draw_perm es.size _ _ _ List.length_range fun ps d hp => ?_)
  have hl : ps.length = es.size := hp.length_eq.trans List.length_range
  unfold newTuple
  refine wpAny_bind (wpAny_newObj_type ?_ (by show (ps.map _).toArray.size ≤ _; simp; unfold scanBound at hz; unfold sizeLine; lia))
  refine ret_newIt (s := { s with drawn := d, heap := s.heap.push { cls := .type "tuple", data := .seq (ps.map fun (i : Nat) => rawInt i).toArray } }) (Heap.get?_push_of_some _ ha) hd hf ?_
  have := h ps d hp
  rw [← Heap.size_push] at this
  exact this
end
section
variable {prog : Program} {w : World} {A : Around} {E : Value → Shared → Prop} {s : Shared} {env : Env} {h₀ : Heap} {target : Expr} {body : List Stmt} {Q : Flow → Shared → Prop} {m₀ : Str → Option Value} {news : Led}
theorem setTurns_core {I T a : Addr} {cT : String} {o : Obj} {n ep : Nat} {us : List Value} {M : Nat → Value → Heap → Prop} (hn : us.length = n) (hm : (a, o) ∈ news) (F : Fr h₀ env.locals s.heap m₀) (N : News h₀ env.locals s.heap news)
    (hI : s.heap.get? I = some (setIt first 0 a n ep)) (hI0 : h₀.get? I = none) (hT0 : h₀.get? T = none) (hLI : env.locals ≠ I) (hLT : env.locals ≠ T) (hnI : ∀ p ∈ news, p.1 ≠ I) (hM0 : M 0 first s.heap)
    (hnt : ∀ v, letOwnedTupleGo target (.ref I) v = pure ())
    (hframe : ∀ i f h h', M i f h → (∀ b ∈ [I, T, a], ∀ o, h.get? b = some o → h'.get? b = some o) → M i f h')
    (hobj : ∀ i f h, h.get? I = some (setIt f i a n ep) → M i f h → ∃ oT, h.get? T = some oT ∧ oT.cls = .type cT)
    (hitem : ∀ i f (s : Shared) (Q : Option Value → Shared → Prop) (E : Value → Shared → Prop), i < n → s.heap.get? I = some (setIt f i a n ep) → s.heap.get? a = some o → M i f s.heap → (∀ v h' f', us[i]? = some v → h'.get? I = some (setIt f' (i + 1) a n ep) → Heap.SameBut I s.heap h' → M (i + 1) f' h' → Q (some v) { s with heap := h' }) → wpAny (model prog w) A (pyNext (.ref I)) Q E s)
    (hdone : ∀ f (s : Shared) (Q : Option Value → Shared → Prop) (E : Value → Shared → Prop), s.heap.get? I = some (setIt f n a n ep) → s.heap.get? a = some o → M n f s.heap → (∀ h', (∀ b o, b ≠ I → s.heap.get? b = some o → h'.get? b = some o) → Q none { s with heap := h' }) → wpAny (model prog w) A (pyNext (.ref I)) Q E s)
    (rest : ItemsRest prog w A E h₀ env target body Q s [(I, "set_iterator"), (T, cT)] [(a, o)] (us.map .val) m₀ news) : TurnsAt prog w A h₀ env target body Q E (.ref I) s := by
  have hNa := N _ hm
  have haI : a ≠ I := hnI _ hm
  have W : KTurns prog w A target I [I, T, a] [I] n (fun i v _ => us[i]? = some v) (fun i v h => us[i]? = some v ∧ ∃ f, h.get? I = some (setIt f (i + 1) a n ep) ∧ h.get? a = some o ∧ M (i + 1) f h) (fun i h => ∃ f, h.get? I = some (setIt f i a n ep) ∧ h.get? a = some o ∧ M i f h) := {
    sub := fun b hb => by rw [List.mem_singleton.mp hb]; exact List.mem_cons_self
    frame := fun i h h' ⟨f, h1, h2, h3⟩ hk => ⟨f, hk _ (by simp) _ h1, hk _ (by simp) _ h2, hframe i f h h' h3 hk⟩
    item := fun i s Q E hi ⟨f, h1, h2, h3⟩ hQ => hitem i f s Q E hi h1 h2 h3 fun v h' f' hv hI' hs hM' => hQ v h' s.toks ⟨hv, f', hI', hs.extBut _ _ haI h2, hM'⟩ fun b o hb e => hs.extBut b o (fun x => hb (by simp [x])) e
    go := fun i v s Q E hm hQ => wpAny_of_eq (hnt v) (hQ s.heap hm.1 hm.2 fun _ _ _ e => e)
    done := fun s Q E ⟨f, h1, h2, h3⟩ hQ => hdone f s Q E h1 h2 h3 fun h' hk => hQ h' s.toks fun b o hb e => hk b o (fun x => hb (by simp [x])) e }
  refine ktu_core (tk0 := s.toks) (hp := s.heap) (keep := [(a, o)]) W (by simp [hn]) (fun i v h hp => ⟨.val v, by simp [hp], rfl⟩) (fun i h ⟨f, h1, h2, h3⟩ => ?_) (fun b hb => ?_) (fun b hb => ?_) (fun b hb => ?_) ?_ (fun p hp hI' => ?_) ⟨first, hI, hNa.1, hM0⟩ F N ⟨hm, trivial⟩ rest
  · obtain ⟨oT, e1, e2⟩ := hobj i f h h1 h3
    refine ⟨[(I, setIt f i a n ep), (T, oT)], ⟨⟨rfl, rfl⟩, ⟨rfl, e2⟩, trivial⟩, fun p hp => ?_⟩
    rcases List.mem_cons.mp hp with rfl | hp
    · exact h1
    · rw [List.mem_singleton.mp hp]; exact e1
  · simp only [List.map_cons, List.map_nil, List.mem_cons, List.not_mem_nil, or_false] at hb
    rcases hb with rfl | rfl
    · exact ⟨by simp, hI0⟩
    · exact ⟨by simp, hT0⟩
  · rw [List.mem_singleton.mp hb]; simp
  · simp only [List.mem_cons, List.not_mem_nil, or_false] at hb
    rcases hb with rfl | rfl | rfl
    · left; simp
    · left; simp
    · right; exact ⟨o, by simp⟩
  · simp only [List.mem_cons, List.not_mem_nil, or_false, not_or]
    exact ⟨hLI, hLT, fun e => hNa.2.1 e.symm⟩
  · exact hnI p hp (List.mem_singleton.mp hI')
end
theorem perm_back {α β : Type} {f : α → β} {vs ws : List β} (h : vs.Perm ws) : ∀ l : List α, ws = l.map f → ∃ us : List α, us.Perm l ∧ vs = us.map f := by
  induction h with
  | nil =>
    intro l e
    cases l with
    | nil => exact ⟨[], .nil, rfl⟩
    | cons _ _ => cases e
  | cons x _ ih =>
    intro l e
    cases l with
    | nil => cases e
    | cons y l =>
      simp only [List.map_cons, List.cons.injEq] at e
      obtain ⟨us, hu, rfl⟩ := ih l e.2
      exact ⟨y :: us, hu.cons y, by rw [e.1]; rfl⟩
  | swap x y r =>
    intro l e
    match l, e with
    | y' :: x' :: l, e =>
      simp only [List.map_cons, List.cons.injEq] at e
      exact ⟨x' :: y' :: l, .swap .., by rw [e.1, e.2.1, e.2.2]; rfl⟩
  | trans _ _ ih1 ih2 =>
    intro l e
    obtain ⟨us, hu, e2⟩ := ih2 l e
    obtain ⟨us', hu', e3⟩ := ih1 us e2
    exact ⟨us', hu'.trans hu, e3⟩
section
variable {prog : Program} {w : World} {A : Around} {E : Value → Shared → Prop} {s : Shared} {env : Env} {h₀ : Heap} {target : Expr} {body : List Stmt} {Q : Flow → Shared → Prop} {m₀ : Str → Option Value} {news : Led}
theorem iter_setTurns {a : Addr} {o : Obj} {l : List (Str × Tok)} (hh : A.handled = none) (F : Fr h₀ env.locals s.heap m₀) (N : News h₀ env.locals s.heap news) (hm : (a, o) ∈ news) (hS : SetO prog w o l) (hnt : ∀ I v, letOwnedTupleGo target (.ref I) v = pure ())
    (rest : ∀ I T cT (us : List (Str × Tok)) d h, us.Perm l → (∀ p ∈ news, p.1 ≠ I) → (∀ p ∈ news, p.1 ≠ T) → ItemsRest prog w A E h₀ env target body Q { s with drawn := d, heap := h } [(I, "set_iterator"), (T, cT)] [(a, o)] (us.map fun x => .val (strO.val x)) m₀ news) :
    wpAny (model prog w) A (pyIter (.ref a)) (fun it s₂ => TurnsAt prog w A h₀ env target body Q E it s₂) E s := by
  obtain ⟨es, ep, tb, rfl, hel, hpm, hz, hf, hml⟩ := hS
  have ha := (N _ hm).1
  have hes : es.size = l.length := by have := hpm.length_eq; simpa using this
  have hnew : h₀.get? s.heap.objs.size = none := next_is_new F
  have hLs : env.locals < s.heap.objs.size := F.ns.lt
  have hns : ∀ p ∈ news, p.1 < s.heap.objs.size := fun p hp => Heap.lt_size (N p hp).1
  have has : a < s.heap.objs.size := hns _ hm
  cases ht : w.params.followText "set-order" with
  | true =>
    refine iter_setP ha rfl rfl hf (.inl ht) ?_
    obtain ⟨us, hu, e⟩ := perm_back (((pick_perm (w.params.setOrder a ep) es).map (·.2)).trans hpm) l rfl
    have hul : us.length = es.size := hu.length_eq.trans hes.symm
    have hat : ∀ i (x : Int × Value), (pickOrder (w.params.setOrder a ep) es)[i]? = some x → (us.map strO.val)[i]? = some x.2 := fun i x hx => by
      rw [← e, List.getElem?_map, Array.getElem?_toList, hx]; rfl
    have hpl : (pickOrder (w.params.setOrder a ep) es).size = es.size := by
      rw [← Array.length_toList, (pick_perm _ _).length_eq, Array.length_toList]
    refine setTurns_core (s := { s with heap := s.heap.push _ }) (cT := "set_iterator") (T := s.heap.objs.size) (us := us.map strO.val) (M := fun _ f _ => f = rawInt 0) (by rw [List.length_map]; exact hul) hm (F.push _) (fun p hp => ⟨Heap.get?_push_of_some _ (N p hp).1, (N p hp).2⟩) (Heap.get?_push_size _ rfl) hnew hnew (Nat.ne_of_lt hLs) (Nat.ne_of_lt hLs) (fun p hp => Nat.ne_of_lt (hns p hp)) rfl (hnt _) (fun _ _ _ _ e _ => e) (fun i f h h1 _ => ⟨_, h1, rfl⟩) ?_ ?_ ?_
    · rintro i f s1 Q1 E1 hi h1 h2 rfl hQ
      obtain ⟨x, hx⟩ : ∃ x, (pickOrder (w.params.setOrder a ep) es)[i]? = some x := ⟨_, Array.getElem?_eq_getElem (by lia)⟩
      exact setit_text h1 h2 rfl hf rfl ht hx fun h' h3 h4 => hQ _ h' _ (hat i x hx) h3 h4 rfl
    · rintro f s1 Q1 E1 h1 h2 rfl hQ
      exact setit_text_end hh h1 h2 rfl hf rfl ht (Array.getElem?_eq_none (by lia)) hQ
    · have := rest _ _ "set_iterator" us s.drawn (s.heap.push (setIt (rawInt 0) 0 a es.size ep)) hu (fun p hp => Nat.ne_of_lt (hns p hp)) (fun p hp => Nat.ne_of_lt (hns p hp))
      rw [List.map_map]; exact this
  | false =>
    rcases Nat.lt_or_ge 1 es.size with h1 | h1
    · have hpf : tb.plain = false := by
        rcases hml with e | e
        · rw [e] at hes; have hes' : es.size = 0 := hes; lia
        · exact e.2
      refine iter_setD ha rfl rfl hf hz (by rw [ht, hpf, decide_eq_true h1]; rfl) fun ps d hp => ?_
      have hlen : ps.length = es.size := hp.length_eq.trans List.length_range
      have e0 : (List.range es.size).map (fun q => (es[q]!).2) = es.toList.map (·.2) := by
        apply List.ext_getElem?
        intro i
        rcases Nat.lt_or_ge i es.size with hi | hi
        · simp [hi]
        · simp [hi]
      obtain ⟨us, hu, e⟩ := perm_back (((hp.map (fun q => (es[q]!).2)).trans (List.Perm.of_eq e0)).trans hpm) l rfl
      have hul : us.length = es.size := hu.length_eq.trans hes.symm
      have hsz1 : (s.heap.push ({ cls := .type "tuple", data := .seq (ps.map fun (i : Nat) => rawInt i).toArray } : Obj)).objs.size = s.heap.objs.size + 1 := Heap.size_push ..
      refine setTurns_core (s := { s with drawn := d, heap := (s.heap.push { cls := .type "tuple", data := .seq (ps.map fun (i : Nat) => rawInt i).toArray }).push (setIt (.ref s.heap.objs.size) 0 a es.size ep) }) (I := s.heap.objs.size + 1) (a := a) (cT := "tuple") (T := s.heap.objs.size) (n := es.size) (ep := ep) (first := .ref s.heap.objs.size) (o := { cls := .type "set", data := .set es ep tb }) (us := us.map strO.val)
        (M := fun _ f h => f = .ref s.heap.objs.size ∧ h.get? s.heap.objs.size = some { cls := .type "tuple", data := .seq (ps.map fun (i : Nat) => rawInt i).toArray }) (by rw [List.length_map]; exact hul) hm ((F.push _).push _) (fun p hp => ⟨Heap.get?_push_of_some _ (Heap.get?_push_of_some _ (N p hp).1), (N p hp).2⟩) ?_ ?_ hnew ?_ (Nat.ne_of_lt hLs) (fun p hp => ?_) ⟨rfl, Heap.get?_push_of_some _ (Heap.get?_push_size _ rfl)⟩ (hnt _) (fun _ _ _ _ e k => ⟨e.1, k _ (by simp) _ e.2⟩) (fun i f h h1 e => ⟨_, e.2, rfl⟩) ?_ ?_ ?_
      · rw [← hsz1]; exact Heap.get?_push_size _ rfl
      · rw [← hsz1]; exact next_is_new (F.push _)
      · exact Nat.ne_of_lt (Nat.lt_succ_of_lt hLs)
      · exact Nat.ne_of_lt (Nat.lt_succ_of_lt (hns p hp))
      · rintro i f s1 Q1 E1 hi h1 h2 ⟨rfl, h3⟩ hQ
        have hq : ps[i]? = some ps[i] := List.getElem?_eq_getElem (by lia)
        have hlt : ps[i] < es.size := List.mem_range.mp (hp.mem_iff.mp (List.getElem_mem _))
        refine setit_drawn h1 h2 rfl hf rfl h3 rfl hq (Array.getElem?_eq_getElem hlt) fun h' h4 h5 => hQ _ h' _ ?_ h4 h5 ⟨rfl, h5.extBut _ _ (Nat.ne_of_lt (Nat.lt_succ_self _)) h3⟩
        rw [← e, List.getElem?_map, hq]; simp [hlt]
      · rintro f s1 Q1 E1 h1 h2 ⟨rfl, h3⟩ hQ
        exact setit_drawn_end hh h1 h2 rfl hf rfl h3 rfl (List.getElem?_eq_none (by lia)) hQ
      · have := rest _ _ "tuple" us d ((s.heap.push { cls := .type "tuple", data := .seq (ps.map fun (i : Nat) => rawInt i).toArray }).push (setIt (.ref s.heap.objs.size) 0 a es.size ep)) hu (fun p hp => Nat.ne_of_lt (Nat.lt_succ_of_lt (hns p hp))) (fun p hp => Nat.ne_of_lt (hns p hp))
        rw [List.map_map]; exact this
    · refine iter_setP ha rfl rfl hf (.inr h1) ?_
      have hps : tb.place.size = es.size := by
        unfold SetTable.fits at hf
        simp at hf
        lia
      have hl : es.isEmpty = true ∨ tb.led = true := by
        rcases hml with e | e
        · left; rw [e] at hes; exact Array.isEmpty_iff_size_eq_zero.mpr hes
        · right; rw [e.1, ht]; rfl
      obtain ⟨us, hu, e⟩ := perm_back hpm l rfl
      have hul : us.length = es.size := hu.length_eq.trans hes.symm
      refine setTurns_core (s := { s with heap := s.heap.push _ }) (cT := "set_iterator") (T := s.heap.objs.size) (us := us.map strO.val) (M := fun i f _ => ∃ j : Nat, f = rawInt j ∧ ((i = 0 ∧ j = 0) ∨ (∃ q, i = 1 ∧ tb.place[0]? = some q ∧ j = q + 1))) (by rw [List.length_map]; exact hul) hm (F.push _) (fun p hp => ⟨Heap.get?_push_of_some _ (N p hp).1, (N p hp).2⟩) (Heap.get?_push_size _ rfl) hnew hnew (Nat.ne_of_lt hLs) (Nat.ne_of_lt hLs) (fun p hp => Nat.ne_of_lt (hns p hp)) ⟨0, rfl, .inl ⟨rfl, rfl⟩⟩ (hnt _) (fun _ _ _ _ e _ => e) (fun i f h h1 _ => ⟨_, h1, rfl⟩) ?_ ?_ ?_
      · rintro i f s1 Q1 E1 hi h2 h3 ⟨j, rfl, hj⟩ hQ
        have hi0 : i = 0 := by lia
        subst hi0
        have hj0 : j = 0 := by rcases hj with e | ⟨q, e, _⟩ <;> lia
        subst hj0
        have hb := below_zero (xs := tb.place) (by lia)
        refine setit_plain (x := es[0]) (j := tb.place[0]) h2 h3 rfl hf rfl ht h1 hl (by rw [hb]; exact Array.getElem?_eq_getElem hi) (by rw [hb]; exact Array.getElem?_eq_getElem (by lia)) fun h' h4 h5 => hQ _ h' _ ?_ h4 h5 ⟨_, rfl, .inr ⟨_, rfl, Array.getElem?_eq_getElem (by lia), rfl⟩⟩
        rw [← e, List.getElem?_map, Array.getElem?_toList, Array.getElem?_eq_getElem hi]; rfl
      · rintro f s1 Q1 E1 h2 h3 ⟨j, rfl, hj⟩ hQ
        refine setit_plain_end hh h2 h3 rfl hf rfl ht h1 hl ?_ hQ
        rcases hj with ⟨e1, rfl⟩ | ⟨q, e1, e2, rfl⟩
        · rw [below_zero (by lia)]; exact Array.getElem?_eq_none (by lia)
        · rw [below_one (by lia) e2]; exact Array.getElem?_eq_none (by lia)
      · have := rest _ _ "set_iterator" us s.drawn (s.heap.push (setIt (rawInt 0) 0 a es.size ep)) hu (fun p hp => Nat.ne_of_lt (hns p hp)) (fun p hp => Nat.ne_of_lt (hns p hp))
        rw [List.map_map]; exact this
end

-- text: Cut
local macro_rules | `(tactic| k_all) => `(tactic| (refine allLt_out ?_; assumption))
noncomputable def CutEnd (h₀ : Heap) (L : Addr) (m : Str → Option Value) (s : Shared) (R : Value → Led → Prop) (v : Value) (s₁ : Shared) : Prop :=
  ∃ nw h' tk', s₁ = { s with heap := h', toks := tk' } ∧ Fr h₀ L h' m ∧ News h₀ L h' nw ∧ R v nw
theorem cut_new {prog : Program} {w : World} {A : Around} {E : Value → Shared → Prop} {s : Shared} {h₀ : Heap} {L : Addr} {m : Str → Option Value} {news : Led} {t : Sem Value} {Q : Value → Shared → Prop} (F : Fr h₀ L s.heap m) (N : News h₀ L s.heap news) (Rv : Led → Value → Led → Prop)
    (ha : wpAny (model prog w) A t (CutEnd h₀ L m s (Rv news)) E s) (hb : ∀ v nw h' tk', Fr h₀ L h' m → News h₀ L h' nw → Rv news v nw → Q v { s with heap := h', toks := tk' }) : wpAny (model prog w) A t Q E s :=
  wpAny_mono ha (fun v s₁ ⟨nw, h', tk', e, F', N', r⟩ => by subst e; exact hb v nw h' tk' F' N' r) fun _ _ e => e
theorem cut_end {h₀ : Heap} {L : Addr} {m : Str → Option Value} {s : Shared} {R : Value → Led → Prop} {v : Value} {nw : Led} {h' : Heap} {tk' : Nat} (F : Fr h₀ L h' m) (N : News h₀ L h' nw) (r : R v nw) : CutEnd h₀ L m s R v { s with heap := h', toks := tk' } := ⟨nw, h', tk', rfl, F, N, r⟩
theorem setO_fresh {prog : Program} {w : World} {led : Bool} {l : List (Str × Tok)} (h : l = []) : SetO prog w { cls := .type "set", dict := none, data := .set #[] 0 (.fresh 0 0 led) } l :=
  ⟨#[], 0, .fresh 0 0 led, rfl, (fun _ he => nomatch he), (by rw [h]; exact .nil), (by unfold scanBound; decide), rfl, .inl h⟩
theorem off1_of {D : Addr} : ∀ {l : Led}, AllLt D l → LCg.Off1 D l
  | [], _ => trivial
  | _ :: _, h => ⟨Nat.ne_of_lt h.1, off1_of h.2⟩
theorem toks_any {α : Type} {M : Model} {A : Around} {E : Value → Shared → Prop} {t : Sem α} {Q : α → Shared → Prop} {h : Heap} {g : Array GenState} {d : Drawn} {big : Nat} {os : OsState} (k : ∀ tk, wpAny M A t Q E ⟨h, g, d, tk, os⟩) : wpAny M A t Q E ⟨h, g, d, big, os⟩ := k big
section
variable {prog : Program} {w : World} {A : Around} {s : Shared} {h₀ : Heap} {L : Addr} {m : Str → Option Value} {env : Env} {news : Led}
/-- a comprehension whose turns leave the ledger as it is -/
theorem comp_fix {elt : Expr} {x : Str} {scope : Scope} {cl : List (Str × Addr)} {S : Led → Prop} {P : Nat → Value → Prop} {Fin : List Value → Led → Prop} (n : Nat) (J : Nat → List Value → Prop) (h0 : J 0 [])
    (turn : ∀ i ys, i < n → J i ys → ∀ v I oI C oC D m₂ h tk (E' : Value → Shared → Prop), P i v → LCg.NsObj oC m₂ → m₂ x = some v → Fr h₀ L h m → News h₀ L h ((I, oI) :: (C, oC) :: (D, LCg.lst ys) :: news) → LCg.Off3 I C D news → ((@Ne Nat I C) ∧ (@Ne Nat I D) ∧ (@Ne Nat C D)) →
      wpAny (model prog w) A (eval elt (compEnvC scope cl C env)) (LCg.CompEnd h₀ L m { s with heap := h, toks := tk } I oI C oC D (LCg.lst ys) S (fun y news' => J (i + 1) (ys ++ [y]) ∧ news' = news)) E' { s with heap := h, toks := tk })
    (fin : ∀ ys, J n ys → Fin ys news) : LCg.CompRest prog w A h₀ L m env elt x scope cl s S P Fin n 0 [] news :=
  comp_inv n (fun i ys nw => J i ys ∧ nw = news) (fun ys nw ⟨h, e⟩ => e ▸ fin ys h) (fun i ys nw hi ⟨hJ, e⟩ => by subst e; exact turn i ys hi hJ) n 0 [] news (Nat.zero_add _) ⟨h0, rfl⟩
end
theorem cls_weight (C : Addr) (pos : List Value) : (Code.builtin "type.__call__" ⟨.ref C :: pos, []⟩).weight = 1 := by kernel_rfl
theorem cls_units (C : Addr) (pos : List Value) : (Code.builtin "type.__call__" ⟨.ref C :: pos, []⟩).cUnits = 1 := by kernel_rfl
theorem top_under {dp un : Nat} {gd : Option (List Code)} {cn : Str} {cs : Scope} {L a : Addr} {ccd : Value} {cl : List (Str × Addr)} {outer : List Env} (C : Addr) (pos : List Value) :
  (ktrTop dp un gd cn cs L a ccd cl outer).under (Code.builtin "type.__call__" ⟨.ref C :: pos, []⟩) = ktrTop (dp + 1) (un + 1) (pushGuards (Code.builtin "type.__call__" ⟨.ref C :: pos, []⟩).guards gd) cn cs L a ccd cl outer := by
  unfold Around.under
  rw [cls_weight, cls_units]
  rfl
theorem it_next {σ : Type} {h₀ : Heap} {L : Addr} {s : Shared} {its : Led} {Ld : σ → Led} {ps : σ → List (Str × Value)} {stored : List Str} {m₀ : Str → Option Value} {keep : Led} {P : σ → Prop} {Q : Flow → Shared → Prop} {s₂ : Shared} (h : ItEnd h₀ L s its Ld ps stored m₀ keep P s₂) : ItPost h₀ L s its Ld ps stored m₀ keep P Q .next s₂ := h
theorem it_ret {σ : Type} {h₀ : Heap} {L : Addr} {s : Shared} {its : Led} {Ld : σ → Led} {ps : σ → List (Str × Value)} {stored : List Str} {m₀ : Str → Option Value} {keep : Led} {P : σ → Prop} {Q : Flow → Shared → Prop} {v : Value} {s₂ : Shared} (h : Q (.ret v) s₂) : ItPost h₀ L s its Ld ps stored m₀ keep P Q (.ret v) s₂ := h
theorem news_swap {h₀ h : Heap} {L : Addr} {a b : Addr × Obj} {r : Led} (N : News h₀ L h (a :: b :: r)) : News h₀ L h (b :: a :: r) := fun p hp => N p (by
  rcases List.mem_cons.mp hp with rfl | hp
  · exact .tail _ (.head _)
  · rcases List.mem_cons.mp hp with rfl | hp
    · exact .head _
    · exact .tail _ (.tail _ hp))

-- text: Ign
noncomputable def plainOf (p : Str) : Str := if normOf p = Str.ofString "" then Str.ofString "." else normOf p
noncomputable def DirOk (p : Str) : Prop := p.length < 1000 ∧ 0 < p.length ∧ RootOk p ∧ (rootOf p).2.length < 1000 ∧ ∀ c ∈ Txt.split (rootOf p).2 (Str.ofString "/"), c ≠ Str.ofString ".."
noncomputable abbrev igE (w : World) (name : String) (t : Tok) (v : Value) : DictEntry := { hash := PyData.keyHash w.params (Str.ofString name), key := .str (Str.ofString name) t, val := v }
noncomputable abbrev igD (w : World) (t1 t2 t3 : Tok) (S D G : Addr) : Obj := dictOf [igE w "_mods" t1 (.ref S), igE w "_dirs" t2 (.ref D), igE w "_ignore" t3 (.ref G)] 3
inductive IgnRet (w : World) (lm ld : Addr) (mods dirs : List (Str × Tok)) (nm nd : Nat) (news : Led) : Value → Led → Prop
  | mk (x dx S D G : Addr) (oS oG : Obj) (es : List (Str × Tok)) (n : Nat) (t1 t2 t3 t4 : Tok) (hS : SetO PySem.Challenge.rw_nq0173_01.row.prog w oS mods) (hes : es.map (·.1) = dirs.map (fun p => plainOf p.1)) (hG : Obj.IsDictOf (PySem.strKind PySem.Challenge.rw_nq0173_01.row.prog w) oG [(Str.ofString "<string>", .int 1 t4)]) (hm : (G == sysModules) = false)
      (lt : AllLt G ((D, listOf (es.map strO.val).toArray n) :: (S, oS) :: (x, instObj 100 dx) :: (dx, igD w t1 t2 t3 S D G) :: (lm, listOf (mods.map strO.val).toArray nm) :: (ld, listOf (dirs.map strO.val).toArray nd) :: news)) :
      IgnRet w lm ld mods dirs nm nd news (.ref x) ((G, oG) :: (D, listOf (es.map strO.val).toArray n) :: (S, oS) :: (x, instObj 100 dx) :: (dx, igD w t1 t2 t3 S D G) :: (lm, listOf (mods.map strO.val).toArray nm) :: (ld, listOf (dirs.map strO.val).toArray nd) :: news)
theorem ignore_con {w : World} {mean : ExcName → Option Value} {mg mb : Str → Option Value} {news : Led} {lm ld : Addr} {mods dirs : List (Str × Tok)} {nm nd : Nat} (hmods : mods.length < 1000) (hdirs : dirs.length < 1000) (hnd : (mods.map (·.1)).Nodup) (hok : ∀ p ∈ dirs, DirOk p.1) :
    Con w mean mg mb 100 5 30 ((lm, listOf (mods.map strO.val).toArray nm) :: (ld, listOf (dirs.map strO.val).toArray nd) :: news) [.ref lm, .ref ld] (IgnRet w lm ld mods dirs nm nd news) := by
  have mk11 : True := .intro
  unfold Con
  k_fill
  intro dp un gd cn cs a ccd cl outer A₀ base h₀ L m s Q E B F X N T hk hd hu hret
  k_dflt (refine' call_cls ?k1 ?k2 ?k3 ?k4 ?k5 ?k6 ?_; (case k1 => k_asm); (case k2 => k_asm); (case k3 => k_asm); (case k4 => k_is); (case k5 => k_is); (case k6 => k_is); k_whole)
  intro x' d' h' F' N' l1 l2
  have z1 : AllLt d' news := (allLt_of l1).2.2
  k_lt l1
  k_lt2 l2
  (try k_sweep)
  rw [top_under]
  k_dflt (k_extra "m:enterK")
  refine toks_any fun tk0 => ?_
  have hstopI := trivial
  k_with "m:stop" => ((fail_if_success fail_if_success clear mk11); ((with_reducible show CutEnd _ _ _ _ _ _ _)))
  k_with "m:stop" => ((fail_if_success fail_if_success clear mk11); ((have hq := hstopI; (with_reducible show wpAny _ _ (eval (PySem.Expr.IfExp _ _ _ _) _) _ _ _))))
  k_extra "m:steps"
  (rename Fr _ _ _ _ => Fn)
  (rename News _ _ _ _ => Nn)
  refine cut_new Fn Nn (fun all v nw => ∃ S o, v = .ref S ∧ nw = (S, o) :: all ∧ SetO PySem.Challenge.rw_nq0173_01.row.prog w o mods ∧ AllLt S all) ?a ?b
  case a =>
    clear hstopI
    k_extra "m:steps"
    · (rename Fr _ _ _ _ => Fn)
      (rename News _ _ _ _ => Nn)
      k_dflt (refine' set_led_new Fn Nn rfl ?k2 hnd ?k3 ?_; (case k2 => k_mem); (case k3 => unfold scanBound; omega); k_whole)
      intro D h' tk' o F' N' l1' hS
      exact cut_end F' N' ⟨_, _, rfl, rfl, hS, l1'⟩
    · (rename Fr _ _ _ _ => Fn)
      (rename News _ _ _ _ => Nn)
      rename_i hz _ _ _ _ _ l1'
      exact cut_end Fn Nn ⟨_, _, rfl, rfl, setO_fresh (List.eq_nil_of_length_eq_zero (by omega)), l1'⟩
  case b =>
    intro _ _ h' tk' F' N' hG3
    refine gen_P fun R9 hR9 => ?_
    obtain ⟨S, o, rfl, rfl, hS, l1'⟩ := hG3
    refine of_P hR9 ?_
    clear hR9 R9
    clear Fn Nn
    have z2 : AllLt S news := l1'.2.2.2.2
    simp only [AllLt] at l1'
    k_extra "m:steps"
    (rename Fr _ _ _ _ => Fn)
    (rename News _ _ _ _ => Nn)
    refine cut_new Fn Nn (fun all v nw => ∃ (D : Addr) (es : List (Str × Tok)) (n : Nat), v = .ref D ∧ nw = (D, listOf (es.map strO.val).toArray n) :: all ∧ es.map (·.1) = dirs.map (fun p => plainOf p.1) ∧ LCg.Off1 D all) ?a2 ?b2
    case a2 =>
      clear hstopI
      k_extra "m:steps"
      · k_extra "m:comp"
        k_extra "m:steps"
        (rename Fr _ _ _ _ => Fq)
        (rename News _ _ _ _ => Nq)
        k_dflt (refine LCg.CompSrc.ledger rfl Fq Nq (by k_mem) (by simp; unfold sizeLine; omega) ?_)
        intro g9
        have hsz : (dirs.map strO.val).toArray.size = dirs.length := by simp
        rw [hsz]
        refine comp_fix dirs.length (fun i ys => ∃ l : List (Str × Tok), ys = l.map strO.val ∧ l.map (·.1) = (dirs.take i).map (fun p => plainOf p.1)) ⟨[], rfl, by simp⟩ ?turn ?fin
        case turn =>
          rintro i ys hi ⟨l, rfl, hl⟩ v I oI C oC D m₂ h tk E' hv hC hx F9 N9 off ne
          have hi' : i < dirs.length := hi
          have hdi : dirs[i]? = some dirs[i] := List.getElem?_eq_getElem hi'
          have ev : v = .str dirs[i].1 dirs[i].2 := by
            have : some v = some (strO.val dirs[i]) := by rw [← hv]; simp [hi']
            exact Option.some.inj this
          subst ev
          have ok := hok _ (List.getElem_mem hi')
          k_extra "m:steps"
          k_dflt (refine' Con.useT ?k1 ?k2 ?k3 ?k4 ?k5 ?k6 (normpath_con ok.1 ok.2.1 ok.2.2.1 ok.2.2.2.1 ok.2.2.2.2) ?k7 ?k8 ?_)
          k_extra "m:use"
          intro t' h' tk' F' N'
          exact LCg.CompEnd.intro F' N' _ (fun p hp => hp) off (.inr ⟨_, by k_mem, rfl, _, rfl⟩) ⟨⟨l ++ [(plainOf dirs[i].1, t')], by simp [strO, plainOf], by rw [List.map_append, hl, List.take_add_one, hdi, List.map_append]; simp only [Option.toList, List.map_cons, List.map_nil]⟩, rfl⟩
        case fin =>
          rintro ys ⟨l, rfl, hl⟩
          unfold LCg.FinE
          intro D9 h9 tk9 F9 N9 o9
          refine cut_end F9 N9 ⟨D9, l, _, rfl, rfl, ?_, o9⟩
          rw [hl, List.take_of_length_le (by simp)]
      · (rename Fr _ _ _ _ => Fq)
        (rename News _ _ _ _ => Nq)
        rename_i hz _ _ l1'
        refine cut_end Fq Nq ⟨_, [], _, rfl, rfl, ?_, off1_of l1'⟩
        rw [List.eq_nil_of_length_eq_zero (l := dirs) (by omega)]; simp
    case b2 =>
      intro _ _ h' tk' F' N' hG4
      refine gen_P fun R9 hR9 => ?_
      obtain ⟨D, es, n, rfl, rfl, hes, l2'⟩ := hG4
      refine of_P hR9 ?_
      clear hR9 R9
      clear Fn Nn
      simp only [LCg.Off1] at l2'
      k_extra "m:steps"
      (rename Fr h₀ _ _ _ => Fz)
      (rename News h₀ _ _ _ => Nz)
      rename_i lo9 hd9 hf9 ap9 l9 _ _ _ _ _
      exact hret _ _ _ _ Fz Nz (.mk _ _ _ _ _ _ _ _ _ _ _ _ _ hS hes hd9 lo9 l9)

-- text: Names
noncomputable abbrev ConD (w : World) (mean : ExcName → Option Value) (mg mb : Str → Option Value) (f : Addr) (dn un' : Nat) (news : Led) (args : List Value) (Ret : Value → Led → Prop) : Prop :=
  ∀ (dp un : Nat) (gd : Option (List Code)) (cn : Str) (cs : Scope) (a : Addr) (ccd : Value) (cl : List (Str × Addr)) (outer : List Env) (A₀ : Around) (base h₀ : Heap) (L : Addr) (m : Str → Option Value) (s : Shared) (Q E : Value → Shared → Prop),
    Below A₀ base outer h₀ → Fr h₀ L s.heap m → (hd.heap_1 w.params).In h₀ → News h₀ L s.heap news → Top q0 (looseW q0 loose0) mean mg mb h₀ → cs.kind = .function →
    dp + dn < recursionLimit → un + un' < cLine →
    (∀ r news' h' tk' d', Fr h₀ L h' m → News h₀ L h' news' → Ret r news' → Q r { s with heap := h', toks := tk', drawn := d' }) →
    wpAny (model PySem.Challenge.rw_nq0173_01.row.prog w) (ktrTop dp un gd cn cs L a ccd cl outer) (call (.ref f) args) Q E s
section
variable {prog : Program} {w : World} {A : Around} {E : Value → Shared → Prop} {s : Shared} {h₀ : Heap} {L a : Addr} {news : Led} {o : Obj} {l : List (Str × Tok)} {x : Str} {t : Tok}
theorem SetO.setOf {h : Heap} (hS : SetO prog w o l) (ho : h.get? a = some o) : h.SetOf (PySem.strKind prog w) a (fun k => decide (k ∈ l.map (·.1))) l.length := by
  obtain ⟨es, ep, tb, rfl, hel, hpm, hz, hf, _⟩ := hS
  refine ⟨_, es, ep, tb, ho, ⟨rfl, rfl, rfl⟩, rfl, hel, fun k => ?_, hz, hf, by have := hpm.length_eq; simpa using this⟩
  rw [decide_eq_true_iff]
  constructor
  · intro hk
    obtain ⟨y, hy, rfl⟩ := List.mem_map.mp hk
    have : strO.val y ∈ es.toList.map (·.2) := hpm.mem_iff.mpr (List.mem_map.mpr ⟨y, hy, rfl⟩)
    obtain ⟨e, he, e2⟩ := List.mem_map.mp this
    exact ⟨e, he, by rw [e2]; exact strKind_is prog w y.1 y.2⟩
  · rintro ⟨e, he, hk⟩
    obtain ⟨t', et⟩ := Value.isStrOf_shape hk
    have hm : e.2 ∈ l.map strO.val := hpm.mem_iff.mp (List.mem_map.mpr ⟨e, he, rfl⟩)
    obtain ⟨y, hy, ey⟩ := List.mem_map.mp hm
    rw [et] at ey
    cases ey
    exact List.mem_map.mpr ⟨y, hy, rfl⟩
theorem in_setO {Q : Value → Shared → Prop} (N : News h₀ L s.heap news) (hm : (a, o) ∈ news) (hS : SetO prog w o l) (h : Q (.bool (decide (x ∈ l.map (·.1)))) { s with toks := s.toks + 1 }) :
    wpAny (model prog w) A (compareOp .In (.str x t) (.ref a)) Q E s := wpAny_inSet_of (strKind_is prog w x t) rfl (hS.setOf (N _ hm).1) h
end
noncomputable def hasMod (mods : List (Str × Tok)) (md : Str) : Bool := mods.any (fun y => Txt.startswith md (y.1 ++ Str.ofString "."))
noncomputable def hasDir (es : List (Str × Tok)) (f : Str) : Bool := es.any (fun y => Txt.startswith f (y.1 ++ Str.ofString "/"))
noncomputable def nameAns (mods es : List (Str × Tok)) (f md : Str) : Bool := decide (md ∈ mods.map (·.1)) || hasMod mods md || hasDir es f
theorem names_con {w : World} {mean : ExcName → Option Value} {mg mb : Str → Option Value} {rest : Led} {x dx S D G : Addr} {oS oG : Obj} {mods es : List (Str × Tok)} {n : Nat} {t1 t2 t3 tf tm : Tok} {kvs : List (Str × Value)} {f md : Str}
    (hS : SetO PySem.Challenge.rw_nq0173_01.row.prog w oS mods) (hG : Obj.IsDictOf (PySem.strKind PySem.Challenge.rw_nq0173_01.row.prog w) oG kvs) (hGs : (G == sysModules) = false) (hmods : mods.length < 1000) (hes : es.length < 1000) (hkv : kvs.length < 1000) (hml : ∀ p ∈ mods, p.1.length < 1000) (hel : ∀ p ∈ es, p.1.length < 1000) (hf : f.length < 1000) (hm : md.length < 1000)
    (off : ∀ p ∈ (D, listOf (es.map strO.val).toArray n) :: (S, oS) :: (x, instObj 100 dx) :: (dx, igD w t1 t2 t3 S D G) :: rest, p.1 ≠ G) :
    ConD w mean mg mb 97 5 30 ((G, oG) :: (D, listOf (es.map strO.val).toArray n) :: (S, oS) :: (x, instObj 100 dx) :: (dx, igD w t1 t2 t3 S D G) :: rest) [.ref x, .str f tf, .str md tm] (fun r news' => (∃ v, valueAt kvs md = some v ∧ r = v ∧ news' = (G, oG) :: (D, listOf (es.map strO.val).toArray n) :: (S, oS) :: (x, instObj 100 dx) :: (dx, igD w t1 t2 t3 S D G) :: rest) ∨ (valueAt kvs md = none ∧ ∃ oG' t t', r = .int (if nameAns mods es f md = true then 1 else 0) t ∧ news' = (G, oG') :: (D, listOf (es.map strO.val).toArray n) :: (S, oS) :: (x, instObj 100 dx) :: (dx, igD w t1 t2 t3 S D G) :: rest ∧ Obj.IsDictOf (PySem.strKind PySem.Challenge.rw_nq0173_01.row.prog w) oG' (stored kvs md (.int (if nameAns mods es f md = true then 1 else 0) t')))) := by
  have mk12 : True := .intro
  unfold ConD
  k_fill
  intro dp un gd cn cs a ccd cl outer A₀ base h₀ L m s Q E B F X N T hk hd hu hret
  have fin0 : ∀ v₀ h' tk' d', valueAt kvs md = some v₀ → Fr h₀ L h' m → News h₀ L h' ((G, oG) :: (D, listOf (es.map strO.val).toArray n) :: (S, oS) :: (x, instObj 100 dx) :: (dx, igD w t1 t2 t3 S D G) :: rest) → Q v₀ { s with heap := h', toks := tk', drawn := d' } := fun v₀ h' tk' d' e Fz Nz => hret _ _ _ _ _ Fz Nz (.inl ⟨_, e, rfl, rfl⟩)
  have fin1 : ∀ h' tk' d' oG' t t', valueAt kvs md = none → nameAns mods es f md = true → Fr h₀ L h' m → News h₀ L h' ((G, oG') :: (D, listOf (es.map strO.val).toArray n) :: (S, oS) :: (x, instObj 100 dx) :: (dx, igD w t1 t2 t3 S D G) :: rest) → Obj.IsDictOf (PySem.strKind PySem.Challenge.rw_nq0173_01.row.prog w) oG' (stored kvs md (.int 1 t')) → Q (.int 1 t) { s with heap := h', toks := tk', drawn := d' } := fun h' tk' d' oG' t t' e0 e Fz Nz hz => hret _ _ _ _ _ Fz Nz (.inr ⟨e0, oG', t, t', by rw [e]; rfl, rfl, by rw [e]; exact hz⟩)
  have fin2 : ∀ h' tk' d' oG' t t', valueAt kvs md = none → nameAns mods es f md = false → Fr h₀ L h' m → News h₀ L h' ((G, oG') :: (D, listOf (es.map strO.val).toArray n) :: (S, oS) :: (x, instObj 100 dx) :: (dx, igD w t1 t2 t3 S D G) :: rest) → Obj.IsDictOf (PySem.strKind PySem.Challenge.rw_nq0173_01.row.prog w) oG' (stored kvs md (.int 0 t')) → Q (.int 0 t) { s with heap := h', toks := tk', drawn := d' } := fun h' tk' d' oG' t t' e0 e Fz Nz hz => hret _ _ _ _ _ Fz Nz (.inr ⟨e0, oG', t, t', by rw [e]; rfl, rfl, by rw [e]; exact hz⟩)
  clear hret
  refine wpAny_call ?_
  k_dflt cell_enter
  refine toks_any fun tk0 => ?_
  cases hv : valueAt kvs md with
  | some v =>
    have hin : (valueAt kvs md).isSome = true := by rw [hv]; rfl
    k_with "m:own" => ((fail_if_success fail_if_success clear mk12); (((with_reducible show wpAny _ _ (compareOp CmpOp.In (Value.str _ _) (Value.ref _)) _ _ _); k_dflt (refine' kda_in (knd := PySem.strKind _ _) ?N ?M ?D ?Z (strKind_is _ _ _ _) _ hin ?_; (case N => k_asm); (case M => k_mem); (case D => assumption); (case Z => assumption); k_whole))))
    k_with "m:own" => ((fail_if_success fail_if_success clear mk12); (((with_reducible show wpAny _ _ (getItem (Value.ref _) (Value.str _ _)) _ _ _); k_dflt (refine' kdt_getItem (knd := PySem.strKind _ _) ?N ?M ?D (strKind_is _ _ _ _) hv ?_; (case N => k_asm); (case M => k_mem); (case D => assumption); k_whole))))
    k_extra "m:steps"
    (rename Fr h₀ _ _ _ => Fz)
    (rename News h₀ _ _ _ => Nz)
    exact fin0 _ _ _ _ hv Fz Nz
  | none =>
    have hin : (valueAt kvs md).isSome = false := by rw [hv]; rfl
    k_with "m:own" => ((fail_if_success fail_if_success clear mk12); (((with_reducible show wpAny _ _ (compareOp CmpOp.In (Value.str _ _) (Value.ref _)) _ _ _); k_dflt (refine' in_setO ?N ?M ?D ?_; (case N => k_asm); (case M => k_mem); (case D => assumption); k_whole))))
    k_with "m:own" => ((fail_if_success fail_if_success clear mk12); (((with_reducible show wpAny _ _ (compareOp CmpOp.In (Value.str _ _) (Value.ref _)) _ _ _); k_dflt (refine' kda_in (knd := PySem.strKind _ _) ?N ?M ?D ?Z (strKind_is _ _ _ _) _ hin ?_; (case N => k_asm); (case M => k_mem); (case D => assumption); (case Z => assumption); k_whole))))
    k_with "m:own" => ((fail_if_success fail_if_success clear mk12); (((with_reducible show wpAny _ _ (setItem (Value.ref _) (Value.str _ _) _) _ _ _); k_dflt (refine' kda_set (knd := PySem.strKind _ _) ?F ?N ?U ?D (strKind_is _ _ _ _) ?Z ?_; (case F => k_asm); (case N => k_asm); (case U => first | exact UpdF.head off | exact UpdF.tail hIG (UpdF.head off) | exact UpdF.tail hIG (UpdF.tail hTG (UpdF.head off))); (case D => assumption); (case Z => unfold sizeLine; omega); k_whole); intro h' oG' F' N' hG'; (try k_sweep))))
    k_extra "m:steps"
    · (rename Fr h₀ _ _ _ => Fz)
      (rename News h₀ _ _ _ => Nz)
      (rename _ ∈ List.map _ _ => hin9)
      exact fin1 _ _ _ _ _ _ hv (by unfold nameAns; rw [decide_eq_true hin9]; rfl) Fz Nz hG'
    (rename ¬ (_ ∈ List.map _ _) => hnm)
    (rename Fr _ _ _ _ => Fn)
    (rename News _ _ _ _ => Nn)
    k_dflt (refine For_turns Fn ?_)
    k_extra "m:steps"
    (rename Fr _ _ _ _ => Fn)
    (rename News _ _ _ _ => Nn)
    k_dflt (refine iter_setTurns rfl Fn Nn (.tail _ (.tail _ (.head _))) hS (fun _ _ => rfl) ?_)
    intro I T' cT us d9 h9 hus hI hT'
    clear Fn Nn
    have hIG : ∀ o1 : Obj, (I, o1).1 ≠ G := fun _ e => hI _ (.head _) e.symm
    have hTG : ∀ o1 : Obj, (T', o1).1 ≠ G := fun _ e => hT' _ (.head _) e.symm
    have hoff : ∀ (o1 o2 : Obj), ∀ p ∈ (G, oG) :: (D, listOf (es.map strO.val).toArray n) :: (S, oS) :: (x, instObj 100 dx) :: (dx, igD w t1 t2 t3 S D G) :: rest, ∀ q ∈ [(I, o1), (T', o2)], p.1 ≠ q.1 := fun o1 o2 p hp q hq => by
      rcases List.mem_cons.mp hq with rfl | hq
      · exact hI p hp
      · rw [List.mem_singleton.mp hq]; exact hT' p hp
    k_dflt (refine items_st (σ := Unit) (fun _ => (G, oG) :: (D, listOf (es.map strO.val).toArray n) :: (S, oS) :: (x, instObj 100 dx) :: (dx, igD w t1 t2 t3 S D G) :: rest) (fun _ => []) [Str.ofString "mod"] (fun items _ => ∃ pre r, items = r.map (fun x : Str × Tok => Itm.val (.str x.1 x.2)) ∧ us = pre ++ r ∧ hasMod pre md = false) ?turn ?done _ () _ ⟨[], us, by simp [strO, Function.comp_def], rfl, rfl⟩ (List.forall_mem_nil _) (fun _ _ _ => rfl))
    case turn =>
      intro a r c9 u v h tk hP9 hv9 F9 o1 ho1 o2 ho2 N9
      refine gen_P fun R9 hR9 => ?_
      obtain ⟨pre, r', e1, e2, e3⟩ := hP9
      refine of_P hR9 (gen_body fun R8 hR8 => ?_)
      clear hR9 R9
      k_with "m:own" => ((fail_if_success fail_if_success clear mk12); ((refine of_Q hR8 ?_; (try dsimp only))))
      cases r' with
      | nil => cases e1
      | cons y r' =>
        cases e1
        have hv' : v = .str y.1 y.2 := hv9
        subst hv'
        have N9' : News _ _ _ ((I, o1) :: (T', o2) :: (G, oG) :: (D, listOf (es.map strO.val).toArray n) :: (S, oS) :: (x, instObj 100 dx) :: (dx, igD w t1 t2 t3 S D G) :: rest) := N9
        clear N9
        dsimp only [kstB] at *
        have hyu : y ∈ mods := hus.mem_iff.mp (by rw [e2]; simp)
        have hyl : y.1.length < 1000 := hml y hyu
        have hdl : (Str.ofString ".").length = 1 := by decide
        have hIG := hIG o1
        have hTG := hTG o2
        k_extra "m:steps"
        · refine it_ret ?_
          k_extra "m:steps"
          (rename Fr h₀ _ _ _ => Fz)
          (rename News h₀ _ _ _ => Nz)
          (rename Txt.startswith _ _ = true => hsw)
          have hmd : hasMod mods md = true := List.any_eq_true.mpr ⟨y, hyu, hsw⟩
          exact fin1 _ _ _ _ _ _ hv (by unfold nameAns; rw [hmd, Bool.or_true]; rfl) Fz (news_perm Nz fun p hp => .tail _ (.tail _ hp)) hG'
        · (rename Txt.startswith _ _ = false => hsw)
          refine it_next ?_
          exact it_end () (by assumption) (by assumption) (fun p hp => hp) (hoff _ _) (fun p hp => by rw [List.mem_singleton.mp hp]; exact .tail _ (.tail _ (.head _))) (List.forall_mem_nil _) (by k_extra "m:same") ⟨pre ++ [y], r', rfl, by simp [e2], by unfold hasMod at e3 ⊢; rw [List.any_append, e3, Bool.false_or]; simpa using hsw⟩
    case done =>
      intro c9 u h tk hP9 F9 N9
      refine gen_P fun R9 hR9 => ?_
      obtain ⟨pre, r, e1, e2, e3⟩ := hP9
      refine of_P hR9 ?_
      clear hR9 R9
      have er : r = [] := by cases r with | nil => rfl | cons _ _ => cases e1
      rw [er, List.append_nil] at e2
      have hmd : hasMod mods md = false := by
        rw [← e2] at e3
        unfold hasMod at e3 ⊢
        rw [List.any_eq_false] at e3 ⊢
        exact fun p hp => e3 p (hus.mem_iff.mpr hp)
      clear hIG hTG hoff hI hT' e1 e2 e3 hus
      dsimp only [kstB] at *
      k_extra "m:steps"
      (rename Fr _ _ _ _ => Fn)
      (rename News _ _ _ _ => Nn)
      k_dflt (refine For_turns Fn ?_)
      k_extra "m:steps"
      (rename Fr _ _ _ _ => Fn)
      (rename News _ _ _ _ => Nn)
      k_dflt (refine iter_listTurns (vs := es.map strO.val) (n := n) rfl Fn Nn (.tail _ (.head _)) rfl rfl ?_)
      intro I hI
      clear Fn Nn
      have hIG : ∀ o1 : Obj, (I, o1).1 ≠ G := fun _ e => Nat.ne_of_lt (hI _ (.head _)) e.symm
      have hoff : ∀ (o1 : Obj), ∀ p ∈ (G, oG) :: (D, listOf (es.map strO.val).toArray n) :: (S, oS) :: (x, instObj 100 dx) :: (dx, igD w t1 t2 t3 S D G) :: rest, ∀ q ∈ [(I, o1)], p.1 ≠ q.1 := fun o1 p hp q hq => by
        rw [List.mem_singleton.mp hq]; exact Nat.ne_of_lt (hI p hp)
      k_dflt (refine items_st (σ := Unit) (fun _ => (G, oG) :: (D, listOf (es.map strO.val).toArray n) :: (S, oS) :: (x, instObj 100 dx) :: (dx, igD w t1 t2 t3 S D G) :: rest) (fun _ => []) [Str.ofString "d"] (fun items _ => ∃ pre r, items = r.map (fun x : Str × Tok => Itm.val (.str x.1 x.2)) ∧ es = pre ++ r ∧ hasDir pre f = false) ?turn2 ?done2 _ () _ ⟨[], es, by simp [strO, Function.comp_def], rfl, rfl⟩ (List.forall_mem_nil _) (fun _ _ _ => rfl))
      case turn2 =>
        intro a r c9 u v h tk hP9 hv9 F9 o1 ho1 N9
        refine gen_P fun R9 hR9 => ?_
        obtain ⟨pre, r', e1, e2, e3⟩ := hP9
        refine of_P hR9 (gen_body fun R8 hR8 => ?_)
        clear hR9 R9
        k_with "m:own" => ((fail_if_success fail_if_success clear mk12); ((refine of_Q hR8 ?_; (try dsimp only))))
        cases r' with
        | nil => cases e1
        | cons y r' =>
          cases e1
          have hv' : v = .str y.1 y.2 := hv9
          subst hv'
          have N9' : News _ _ _ ((I, o1) :: (G, oG) :: (D, listOf (es.map strO.val).toArray n) :: (S, oS) :: (x, instObj 100 dx) :: (dx, igD w t1 t2 t3 S D G) :: rest) := N9
          clear N9
          dsimp only [kstB] at *
          have hyu : y ∈ es := by rw [e2]; simp
          have hyl : y.1.length < 1000 := hel y hyu
          have hdl : (Str.ofString "/").length = 1 := by decide
          have hIG := hIG o1
          k_extra "m:steps"
          · refine it_ret ?_
            k_extra "m:steps"
            (rename Fr h₀ _ _ _ => Fz)
            (rename News h₀ _ _ _ => Nz)
            (rename Txt.startswith _ _ = true => hsw)
            have hdr : hasDir es f = true := List.any_eq_true.mpr ⟨y, hyu, hsw⟩
            exact fin1 _ _ _ _ _ _ hv (by unfold nameAns; rw [hdr, Bool.or_true]) Fz (news_perm Nz fun p hp => .tail _ hp) hG'
          · (rename Txt.startswith _ _ = false => hsw)
            refine it_next ?_
            exact it_end () (by assumption) (by assumption) (fun p hp => hp) (hoff _) (fun p hp => by rw [List.mem_singleton.mp hp]; exact .tail _ (.head _)) (List.forall_mem_nil _) (by k_extra "m:same") ⟨pre ++ [y], r', rfl, by simp [e2], by unfold hasDir at e3 ⊢; rw [List.any_append, e3, Bool.false_or]; simpa using hsw⟩
      case done2 =>
        intro c9 u h tk hP9 F9 N9
        refine gen_P fun R9 hR9 => ?_
        obtain ⟨pre, r, e1, e2, e3⟩ := hP9
        refine of_P hR9 ?_
        clear hR9 R9
        have er : r = [] := by cases r with | nil => rfl | cons _ _ => cases e1
        rw [er, List.append_nil] at e2
        have hdr : hasDir es f = false := by rw [e2]; exact e3
        clear hIG hoff hI e1 e2 e3
        dsimp only [kstB] at *
        k_extra "m:steps"
        (rename Fr h₀ _ _ _ => Fz)
        (rename News h₀ _ _ _ => Nz)
        exact fin2 _ _ _ _ _ _ hv (by unfold nameAns; rw [hdr, hmd, decide_eq_false hnm]; rfl) Fz Nz hG'

-- text: Mm
noncomputable def bestBy (bt : Str → Str → Bool) (kf : Str → Str) (b : Str × Tok) : List (Str × Tok) → Str × Tok
  | [] => b
  | y :: ys => bestBy bt kf (if bt (kf y.1) (kf b.1) = true then y else b) ys
noncomputable def smore (a b : Str) : Bool := sless b a
noncomputable def KeyEnd (h₀ : Heap) (L : Addr) (m : Str → Option Value) (nw : Led) (k : Str) (s : Shared) (v : Value) (s' : Shared) : Prop := ∃ h' tk' t, v = .str k t ∧ s' = { s with heap := h', toks := tk' } ∧ Fr h₀ L h' m ∧ News h₀ L h' nw
theorem cmp_less {prog : Program} {w : World} {A : Around} {E : Value → Shared → Prop} {s : Shared} {x y : Str} {t u : Tok} {Q : Value → Shared → Prop} (h : Q (.bool (sless x y)) s) : wpAny (model prog w) A (richCompare .Lt (.str x t) (.str y u)) Q E s := lt_str h
theorem cmp_more {prog : Program} {w : World} {A : Around} {E : Value → Shared → Prop} {s : Shared} {x y : Str} {t u : Tok} {Q : Value → Shared → Prop} (h : Q (.bool (smore x y)) s) : wpAny (model prog w) A (richCompare .Gt (.str x t) (.str y u)) Q E s := PySem.P.gt_str h
section
variable {prog : Program} {w : World} {A : Around} {E : Value → Shared → Prop} {s : Shared} {h₀ : Heap} {L l q I S : Addr} {m : Str → Option Value} {news : Led} {xs : List (Str × Tok)} {n : Nat} {R : Result → Shared → Prop} {Q : Value → Shared → Prop}
theorem min_loop {d : Value} (kf : Str → Str) (hh : A.handled = none) (hm : (l, listOf (xs.map strO.val).toArray n) ∈ news) (hSI : S ≠ I) (hnS : ∀ p ∈ news, p.1 ≠ S) (hnI : ∀ p ∈ news, p.1 ≠ I)
    (turn : ∀ x ∈ xs, ∀ (h : Heap) (tk : Nat) (nw : Led), Fr h₀ L h m → News h₀ L h nw → wpAny (model prog w) A.in1 (call (.ref q) [strO.val x]) (KeyEnd h₀ L m nw (kf x.1) { s with heap := h, toks := tk }) (fun _ _ => False) { s with heap := h, toks := tk }) :
    ∀ (r j : Nat) (b : Str × Tok) (h : Heap) (tk : Nat) (tb : Tok) (c : Nat) (oI : Obj), xs.length - j = r → j ≤ xs.length →
      (∀ h' tk', Fr h₀ L h' m → News h₀ L h' news → R (.ok (.ret (strO.val (bestBy sless kf b (xs.drop j))))) { s with heap := h', toks := tk' }) → Fr h₀ L h m →
      News h₀ L h ((S, seqObj "list" #[strO.val b, .str (kf b.1) tb] c) :: (I, oI) :: news) → h.IsListIter I l j →
      codeAny (model prog w) A (.builtin "min.loop" ⟨[.ref I, .ref q, .ref S], [(Str.ofString "default", d)]⟩) R { s with heap := h, toks := tk } := by
  have hlI : l ≠ I := hnI _ hm
  have hname : (toString "min" ++ toString ".loop" : String) = "min.loop" := by decide
  have W := Walks.list (prog := prog) (w := w) (A := A.in1) hh I l hlI (xs.map strO.val).toArray
  have hsz : (xs.map strO.val).toArray.size = xs.length := by simp
  intro r
  induction r with
  | zero =>
    intro j b h tk tb c oI hr hj hR F N hit
    have hin : j = xs.length := by lia
    have nS := N _ (.head _)
    have nI := N _ (.tail _ (.head _))
    have Nn : News h₀ L h news := fun p hp => N p (.tail _ (.tail _ hp))
    refine codeAny_builtin PySem.F.entry_min_loop ?_
    rw [Around.under_plainId PySem.F.plain_min_loop _]
    show wpAny _ A.in1 (seqItems? (.ref S) >>= _) _ _ _
    refine wpAny_bind (wpAny_seqItems nS.1 rfl ?_)
    show wpAny _ A.in1 (tryCatch (pyNext (.ref I)) _ >>= _) _ _ _
    refine wpAny_bind (wpAny_tryCatch (W.done _ _ _ ⟨by rw [hsz, ← hin]; exact hit, PySem.IsL.isList (n := n) (Nn _ hm).1⟩ fun h' tk' hk' => ?_))
    have F1 := kmk_fr F hk' nI.2.1 nI.2.2
    have N1 := kmk_news Nn hk' hnI
    have hS' := hk' S _ (by simpa using hSI) nS.1
    have s1 := Heap.SameBut.update h' S (Obj.mapSeq fun _ => (#[] : Array Value))
    show wpAny _ A.in1 (updateSeq S (fun _ => #[]) >>= _) _ _ _
    refine wpAny_bind ?_
    refine wpAny_updateSeq hS' rfl (wpAny_bind (wpAny_letGo (wpAny_pure ?_)))
    have := hR _ tk' (ksk_fr F1 s1 nS.2.1 nS.2.2) (ksk_news N1 s1 hnS)
    rw [hin, List.drop_length] at this
    exact this
  | succ r ih =>
    intro j b h tk tb c oI hr hj hR F N hit
    have hlt : j < xs.length := by lia
    have nS := N _ (.head _)
    have nI := N _ (.tail _ (.head _))
    have Nn : News h₀ L h news := fun p hp => N p (.tail _ (.tail _ hp))
    refine codeAny_builtin PySem.F.entry_min_loop ?_
    rw [Around.under_plainId PySem.F.plain_min_loop _]
    show wpAny _ A.in1 (seqItems? (.ref S) >>= _) _ _ _
    refine wpAny_bind (wpAny_seqItems nS.1 rfl ?_)
    show wpAny _ A.in1 (tryCatch (pyNext (.ref I)) _ >>= _) _ _ _
    refine wpAny_bind (wpAny_tryCatch (W.item j _ _ _ (by rw [hsz]; exact hlt) ⟨hit, PySem.IsL.isList (n := n) (Nn _ hm).1⟩ fun v h' tk' hP hst' hk' => ?_))
    obtain ⟨y, hy⟩ : ∃ y, xs[j]? = some y := ⟨_, List.getElem?_eq_getElem hlt⟩
    have hv : v = strO.val y := by
      have : some v = some (strO.val y) := by rw [← hP]; simp [hy]
      exact Option.some.inj this
    subst hv
    have hdrop : xs.drop j = y :: xs.drop (j + 1) := by
      rw [List.drop_eq_getElem_cons hlt]
      congr 1
      exact Option.some.inj ((List.getElem?_eq_getElem hlt).symm.trans hy)
    have hyx : y ∈ xs := List.mem_of_getElem? hy
    obtain ⟨oI', hoI', hoc, hod⟩ := id hst'.1
    have F1 := kmk_fr F hk' nI.2.1 nI.2.2
    have N1 : News h₀ L h' ((S, seqObj "list" #[strO.val b, .str (kf b.1) tb] c) :: (I, oI') :: news) := fun p hp => by
      rcases List.mem_cons.mp hp with rfl | hp
      · exact ⟨hk' S _ (by simpa using hSI) nS.1, nS.2⟩
      · rcases List.mem_cons.mp hp with rfl | hp
        · exact ⟨hoI', nI.2⟩
        · exact kmk_news Nn hk' hnI p hp
    show wpAny _ A.in1 (tryCatch (holding [strO.val y] (call (.ref q) [strO.val y])) _ >>= _) _ _ _
    refine wpAny_bind (wpAny_tryCatch (wpAny_holding (wpAny_mono (turn y hyx h' tk' _ F1 N1) (fun x s'' he => ?_) fun _ _ hF => hF.elim)))
    obtain ⟨h2, tk2, t2, rfl, rfl, F2, N2⟩ := he
    have nS2 := N2 _ (.head _)
    have nI2 := N2 _ (.tail _ (.head _))
    have hit2 : h2.IsListIter I l (j + 1) := ⟨oI', nI2.1, hoc, hod⟩
    show wpAny _ A.in1 (tryCatch (holding [strO.val y, .str (kf y.1) t2] (richCompare .Lt (.str (kf y.1) t2) (.str (kf b.1) tb) >>= _)) _ >>= _) _ _ _
    refine wpAny_bind (wpAny_tryCatch (wpAny_holding (wpAny_bind (cmp_less ?_))))
    refine wpAny_bind (wpAny_holding (wpAny_truthy_bool ?_))
    refine wpAny_bind (wpAny_letGo (wpAny_pure ?_))
    cases hb' : sless (kf y.1) (kf b.1) with
    | true =>
      have s1 := Heap.SameBut.update h2 S (Obj.mapSeq fun _ => #[strO.val y, .str (kf y.1) t2])
      obtain ⟨c2, hc2⟩ : ∃ c2, (h2.update S (Obj.mapSeq fun _ => #[strO.val y, .str (kf y.1) t2])).get? S = some (seqObj "list" #[strO.val y, .str (kf y.1) t2] c2) := ⟨_, get?_update_seq nS2.1 fun _ => #[strO.val y, .str (kf y.1) t2]⟩
      simp only [if_true]
      refine wpAny_bind ?_
      refine wpAny_updateSeq nS2.1 rfl (wpAny_bind (wpAny_letGo ?_))
      rw [hname]
      refine wpAny_pure ⟨plainId_quiet PySem.F.plain_min_loop _, ih (j + 1) y _ _ t2 c2 oI' (by lia) hlt (fun h9 tk9 F9 N9 => ?_) (ksk_fr F2 s1 nS2.2.1 nS2.2.2) (fun p hp => ?_) ⟨oI', (s1.2 I hSI.symm).trans nI2.1, hoc, hod⟩⟩
      · have := hR h9 tk9 F9 N9
        rw [hdrop, bestBy, hb', if_pos rfl] at this
        exact this
      · rcases List.mem_cons.mp hp with rfl | hp
        · exact ⟨hc2, nS2.2⟩
        · rcases List.mem_cons.mp hp with rfl | hp
          · exact ⟨(s1.2 I hSI.symm).trans nI2.1, nI2.2⟩
          · exact ksk_news (fun p hp => N2 p (.tail _ (.tail _ hp))) s1 hnS p hp
    | false =>
      simp only [Bool.false_eq_true, if_false]
      refine wpAny_bind (wpAny_letGo ?_)
      rw [hname]
      refine wpAny_pure ⟨plainId_quiet PySem.F.plain_min_loop _, ih (j + 1) b _ _ tb c oI' (by lia) hlt (fun h9 tk9 F9 N9 => ?_) F2 N2 hit2⟩
      have := hR h9 tk9 F9 N9
      rw [hdrop, bestBy, hb', if_neg Bool.false_ne_true] at this
      exact this
theorem min_args (a d v : Value) : argsOk "min" ⟨[a], [(Str.ofString "default", d), (Str.ofString "key", v)]⟩ := by unfold argsOk; kernel_rfl
theorem min_key {d : Value} {oI : Obj} {x0 : Str × Tok} {xs' : List (Str × Tok)} (kf : Str → Str) (hh : A.handled = none) (F : Fr h₀ L s.heap m) (N : News h₀ L s.heap ((I, oI) :: news)) (hit : s.heap.IsListIter I l 0) (hm : (l, listOf (xs.map strO.val).toArray n) ∈ news) (hnI : ∀ p ∈ news, p.1 ≠ I) (hx : xs = x0 :: xs')
    (turn : ∀ x ∈ xs, ∀ (h : Heap) (tk : Nat) (nw : Led), Fr h₀ L h m → News h₀ L h nw → wpAny (model prog w) A.in1 (call (.ref q) [strO.val x]) (KeyEnd h₀ L m nw (kf x.1) { s with heap := h, toks := tk }) (fun _ _ => False) { s with heap := h, toks := tk })
    (hQ : ∀ h' tk', Fr h₀ L h' m → News h₀ L h' news → Q (strO.val (bestBy sless kf x0 xs')) { s with heap := h', toks := tk' }) :
    wpAny (model prog w) A (call (.builtin "min") [.ref I] [(Str.ofString "default", d), (Str.ofString "key", .ref q)]) Q E s := by
  have hname : (toString "min" ++ toString ".loop" : String) = "min.loop" := by decide
  have hlI : l ≠ I := hnI _ hm
  have hL : L < s.heap.objs.size := F.ns.lt
  refine kmk_tree PySem.F.kind_min PySem.F.plain_min PySem.F.entry_min (min_args _ _ _) ?_
  show wpAny _ A.in1 (Builtin.Builtins.bindParams "min" ["key", "default"] 0 ⟨[], [(Str.ofString "default", d), (Str.ofString "key", .ref q)]⟩ >>= _) _ _ s
  refine wpAny_bind (wpAny_of_eq (show Builtin.Builtins.bindParams "min" ["key", "default"] 0 ⟨[], [(Str.ofString "default", d), (Str.ofString "key", .ref q)]⟩ = pure [some (.ref q), some d] from rfl) ?_)
  refine wpAny_bind (wpAny_pure ?_)
  refine wpAny_bind (wpAny_pyIter_listiter hit ?_)
  refine wpAny_bind (wpAny_newList ?_ (Nat.zero_le _))
  rw [hname]
  have nI := N _ (.head _)
  have Nn : News h₀ L s.heap news := fun p hp => N p (.tail _ hp)
  have hIs : I < s.heap.objs.size := Heap.lt_size nI.1
  have hSI : s.heap.objs.size ≠ I := Nat.ne_of_gt hIs
  have hnS : ∀ p ∈ news, p.1 ≠ s.heap.objs.size := fun p hp => Nat.ne_of_lt (Heap.lt_size (Nn p hp).1)
  refine wpAny_pure ⟨plainId_quiet PySem.F.plain_min_loop _, ?_⟩
  have gS : (s.heap.push (seqObj "list" #[] 0)).get? s.heap.objs.size = some (seqObj "list" #[] 0) := Heap.get?_push_size _ rfl
  have aS : s.heap.objs.size ≠ L := Nat.ne_of_gt hL
  have zS : h₀.get? s.heap.objs.size = none := next_is_new F
  have W := Walks.list (prog := prog) (w := w) (A := A.in1) hh I l hlI (xs.map strO.val).toArray
  have hsz : (xs.map strO.val).toArray.size = xs.length := by simp
  have hne : 0 < xs.length := by rw [hx]; simp
  have FH : Fr h₀ L (s.heap.push (seqObj "list" #[] 0)) m := F.push _
  have NH : News h₀ L (s.heap.push (seqObj "list" #[] 0)) news := fun p hp => ⟨Heap.get?_push_of_some _ (Nn p hp).1, (Nn p hp).2⟩
  have hitH : (s.heap.push (seqObj "list" #[] 0)).IsListIter I l 0 := hit.at fun o e => Heap.get?_push_of_some _ e
  refine codeAny_builtin PySem.F.entry_min_loop ?_
  rw [Around.under_plainId PySem.F.plain_min_loop _]
  show wpAny _ A.in1 (seqItems? (.ref _) >>= _) _ _ _
  refine wpAny_bind (wpAny_seqItems gS rfl ?_)
  show wpAny _ A.in1 (tryCatch (pyNext (.ref I)) _ >>= _) _ _ _
  refine wpAny_bind (wpAny_tryCatch (W.item 0 _ _ _ (by rw [hsz]; exact hne) ⟨hitH, PySem.IsL.isList (n := n) (NH _ hm).1⟩ fun v h' tk' hP hst' hk' => ?_))
  have hv : v = strO.val x0 := by
    have : some v = some (strO.val x0) := by rw [← hP]; simp [hx]
    exact Option.some.inj this
  subst hv
  obtain ⟨oI', hoI', hoc, hod⟩ := id hst'.1
  have F1 := kmk_fr FH hk' nI.2.1 nI.2.2
  have N1 : News h₀ L h' ((s.heap.objs.size, seqObj "list" #[] 0) :: (I, oI') :: news) := fun p hp => by
    rcases List.mem_cons.mp hp with rfl | hp
    · exact ⟨hk' _ _ (by simpa using hSI) gS, aS, zS⟩
    · rcases List.mem_cons.mp hp with rfl | hp
      · exact ⟨hoI', nI.2⟩
      · exact kmk_news NH hk' hnI p hp
  show wpAny _ A.in1 (tryCatch (holding [strO.val x0] (call (.ref q) [strO.val x0])) _ >>= _) _ _ _
  refine wpAny_bind (wpAny_tryCatch (wpAny_holding (wpAny_mono (turn x0 (by rw [hx]; exact .head _) h' tk' _ F1 N1) (fun x s'' he => ?_) fun _ _ hF => hF.elim)))
  obtain ⟨h2, tk2, t2, rfl, rfl, F2, N2⟩ := he
  have nS2 := N2 _ (.head _)
  have nI2 := N2 _ (.tail _ (.head _))
  have s1 := Heap.SameBut.update h2 s.heap.objs.size (Obj.mapSeq fun _ => #[strO.val x0, .str (kf x0.1) t2])
  obtain ⟨c2, hc2⟩ : ∃ c2, (h2.update s.heap.objs.size (Obj.mapSeq fun _ => #[strO.val x0, .str (kf x0.1) t2])).get? s.heap.objs.size = some (seqObj "list" #[strO.val x0, .str (kf x0.1) t2] c2) := ⟨_, get?_update_seq nS2.1 fun _ => #[strO.val x0, .str (kf x0.1) t2]⟩
  show wpAny _ A.in1 (updateSeq s.heap.objs.size (fun _ => #[strO.val x0, .str (kf x0.1) t2]) >>= _) _ _ _
  refine wpAny_bind ?_
  refine wpAny_updateSeq nS2.1 rfl ?_
  rw [hname]
  refine wpAny_pure ⟨plainId_quiet PySem.F.plain_min_loop _, min_loop kf hh hm hSI hnS hnI turn _ 1 x0 _ _ t2 c2 oI' rfl hne (fun h9 tk9 F9 N9 => ?_) (ksk_fr F2 s1 nS2.2.1 nS2.2.2) (fun p hp => ?_) ⟨oI', (s1.2 _ hSI.symm).trans nI2.1, hoc, hod⟩⟩
  · rw [hx]; exact hQ h9 tk9 F9 N9
  · rcases List.mem_cons.mp hp with rfl | hp
    · exact ⟨hc2, nS2.2⟩
    · rcases List.mem_cons.mp hp with rfl | hp
      · exact ⟨(s1.2 _ hSI.symm).trans nI2.1, nI2.2⟩
      · exact ksk_news (fun p hp => N2 p (.tail _ (.tail _ hp))) s1 hnS p hp
theorem max_loop {d : Value} (kf : Str → Str) (hh : A.handled = none) (hm : (l, listOf (xs.map strO.val).toArray n) ∈ news) (hSI : S ≠ I) (hnS : ∀ p ∈ news, p.1 ≠ S) (hnI : ∀ p ∈ news, p.1 ≠ I)
    (turn : ∀ x ∈ xs, ∀ (h : Heap) (tk : Nat) (nw : Led), Fr h₀ L h m → News h₀ L h nw → wpAny (model prog w) A.in1 (call (.ref q) [strO.val x]) (KeyEnd h₀ L m nw (kf x.1) { s with heap := h, toks := tk }) (fun _ _ => False) { s with heap := h, toks := tk }) :
    ∀ (r j : Nat) (b : Str × Tok) (h : Heap) (tk : Nat) (tb : Tok) (c : Nat) (oI : Obj), xs.length - j = r → j ≤ xs.length →
      (∀ h' tk', Fr h₀ L h' m → News h₀ L h' news → R (.ok (.ret (strO.val (bestBy smore kf b (xs.drop j))))) { s with heap := h', toks := tk' }) → Fr h₀ L h m →
      News h₀ L h ((S, seqObj "list" #[strO.val b, .str (kf b.1) tb] c) :: (I, oI) :: news) → h.IsListIter I l j →
      codeAny (model prog w) A (.builtin "max.loop" ⟨[.ref I, .ref q, .ref S], [(Str.ofString "default", d)]⟩) R { s with heap := h, toks := tk } := by
  have hlI : l ≠ I := hnI _ hm
  have hname : (toString "max" ++ toString ".loop" : String) = "max.loop" := by decide
  have W := Walks.list (prog := prog) (w := w) (A := A.in1) hh I l hlI (xs.map strO.val).toArray
  have hsz : (xs.map strO.val).toArray.size = xs.length := by simp
  intro r
  induction r with
  | zero =>
    intro j b h tk tb c oI hr hj hR F N hit
    have hin : j = xs.length := by lia
    have nS := N _ (.head _)
    have nI := N _ (.tail _ (.head _))
    have Nn : News h₀ L h news := fun p hp => N p (.tail _ (.tail _ hp))
    refine codeAny_builtin PySem.F.entry_max_loop ?_
    rw [Around.under_plainId PySem.F.plain_max_loop _]
    show wpAny _ A.in1 (seqItems? (.ref S) >>= _) _ _ _
    refine wpAny_bind (wpAny_seqItems nS.1 rfl ?_)
    show wpAny _ A.in1 (tryCatch (pyNext (.ref I)) _ >>= _) _ _ _
    refine wpAny_bind (wpAny_tryCatch (W.done _ _ _ ⟨by rw [hsz, ← hin]; exact hit, PySem.IsL.isList (n := n) (Nn _ hm).1⟩ fun h' tk' hk' => ?_))
    have F1 := kmk_fr F hk' nI.2.1 nI.2.2
    have N1 := kmk_news Nn hk' hnI
    have hS' := hk' S _ (by simpa using hSI) nS.1
    have s1 := Heap.SameBut.update h' S (Obj.mapSeq fun _ => (#[] : Array Value))
    show wpAny _ A.in1 (updateSeq S (fun _ => #[]) >>= _) _ _ _
    refine wpAny_bind ?_
    refine wpAny_updateSeq hS' rfl (wpAny_bind (wpAny_letGo (wpAny_pure ?_)))
    have := hR _ tk' (ksk_fr F1 s1 nS.2.1 nS.2.2) (ksk_news N1 s1 hnS)
    rw [hin, List.drop_length] at this
    exact this
  | succ r ih =>
    intro j b h tk tb c oI hr hj hR F N hit
    have hlt : j < xs.length := by lia
    have nS := N _ (.head _)
    have nI := N _ (.tail _ (.head _))
    have Nn : News h₀ L h news := fun p hp => N p (.tail _ (.tail _ hp))
    refine codeAny_builtin PySem.F.entry_max_loop ?_
    rw [Around.under_plainId PySem.F.plain_max_loop _]
    show wpAny _ A.in1 (seqItems? (.ref S) >>= _) _ _ _
    refine wpAny_bind (wpAny_seqItems nS.1 rfl ?_)
    show wpAny _ A.in1 (tryCatch (pyNext (.ref I)) _ >>= _) _ _ _
    refine wpAny_bind (wpAny_tryCatch (W.item j _ _ _ (by rw [hsz]; exact hlt) ⟨hit, PySem.IsL.isList (n := n) (Nn _ hm).1⟩ fun v h' tk' hP hst' hk' => ?_))
    obtain ⟨y, hy⟩ : ∃ y, xs[j]? = some y := ⟨_, List.getElem?_eq_getElem hlt⟩
    have hv : v = strO.val y := by
      have : some v = some (strO.val y) := by rw [← hP]; simp [hy]
      exact Option.some.inj this
    subst hv
    have hdrop : xs.drop j = y :: xs.drop (j + 1) := by
      rw [List.drop_eq_getElem_cons hlt]
      congr 1
      exact Option.some.inj ((List.getElem?_eq_getElem hlt).symm.trans hy)
    have hyx : y ∈ xs := List.mem_of_getElem? hy
    obtain ⟨oI', hoI', hoc, hod⟩ := id hst'.1
    have F1 := kmk_fr F hk' nI.2.1 nI.2.2
    have N1 : News h₀ L h' ((S, seqObj "list" #[strO.val b, .str (kf b.1) tb] c) :: (I, oI') :: news) := fun p hp => by
      rcases List.mem_cons.mp hp with rfl | hp
      · exact ⟨hk' S _ (by simpa using hSI) nS.1, nS.2⟩
      · rcases List.mem_cons.mp hp with rfl | hp
        · exact ⟨hoI', nI.2⟩
        · exact kmk_news Nn hk' hnI p hp
    show wpAny _ A.in1 (tryCatch (holding [strO.val y] (call (.ref q) [strO.val y])) _ >>= _) _ _ _
    refine wpAny_bind (wpAny_tryCatch (wpAny_holding (wpAny_mono (turn y hyx h' tk' _ F1 N1) (fun x s'' he => ?_) fun _ _ hF => hF.elim)))
    obtain ⟨h2, tk2, t2, rfl, rfl, F2, N2⟩ := he
    have nS2 := N2 _ (.head _)
    have nI2 := N2 _ (.tail _ (.head _))
    have hit2 : h2.IsListIter I l (j + 1) := ⟨oI', nI2.1, hoc, hod⟩
    show wpAny _ A.in1 (tryCatch (holding [strO.val y, .str (kf y.1) t2] (richCompare .Gt (.str (kf y.1) t2) (.str (kf b.1) tb) >>= _)) _ >>= _) _ _ _
    refine wpAny_bind (wpAny_tryCatch (wpAny_holding (wpAny_bind (cmp_more ?_))))
    refine wpAny_bind (wpAny_holding (wpAny_truthy_bool ?_))
    refine wpAny_bind (wpAny_letGo (wpAny_pure ?_))
    cases hb' : smore (kf y.1) (kf b.1) with
    | true =>
      have s1 := Heap.SameBut.update h2 S (Obj.mapSeq fun _ => #[strO.val y, .str (kf y.1) t2])
      obtain ⟨c2, hc2⟩ : ∃ c2, (h2.update S (Obj.mapSeq fun _ => #[strO.val y, .str (kf y.1) t2])).get? S = some (seqObj "list" #[strO.val y, .str (kf y.1) t2] c2) := ⟨_, get?_update_seq nS2.1 fun _ => #[strO.val y, .str (kf y.1) t2]⟩
      simp only [if_true]
      refine wpAny_bind ?_
      refine wpAny_updateSeq nS2.1 rfl (wpAny_bind (wpAny_letGo ?_))
      rw [hname]
      refine wpAny_pure ⟨plainId_quiet PySem.F.plain_max_loop _, ih (j + 1) y _ _ t2 c2 oI' (by lia) hlt (fun h9 tk9 F9 N9 => ?_) (ksk_fr F2 s1 nS2.2.1 nS2.2.2) (fun p hp => ?_) ⟨oI', (s1.2 I hSI.symm).trans nI2.1, hoc, hod⟩⟩
      · have := hR h9 tk9 F9 N9
        rw [hdrop, bestBy, hb', if_pos rfl] at this
        exact this
      · rcases List.mem_cons.mp hp with rfl | hp
        · exact ⟨hc2, nS2.2⟩
        · rcases List.mem_cons.mp hp with rfl | hp
          · exact ⟨(s1.2 I hSI.symm).trans nI2.1, nI2.2⟩
          · exact ksk_news (fun p hp => N2 p (.tail _ (.tail _ hp))) s1 hnS p hp
    | false =>
      simp only [Bool.false_eq_true, if_false]
      refine wpAny_bind (wpAny_letGo ?_)
      rw [hname]
      refine wpAny_pure ⟨plainId_quiet PySem.F.plain_max_loop _, ih (j + 1) b _ _ tb c oI' (by lia) hlt (fun h9 tk9 F9 N9 => ?_) F2 N2 hit2⟩
      have := hR h9 tk9 F9 N9
      rw [hdrop, bestBy, hb', if_neg Bool.false_ne_true] at this
      exact this
theorem max_args (a d v : Value) : argsOk "max" ⟨[a], [(Str.ofString "default", d), (Str.ofString "key", v)]⟩ := by unfold argsOk; kernel_rfl
theorem max_key {d : Value} {oI : Obj} {x0 : Str × Tok} {xs' : List (Str × Tok)} (kf : Str → Str) (hh : A.handled = none) (F : Fr h₀ L s.heap m) (N : News h₀ L s.heap ((I, oI) :: news)) (hit : s.heap.IsListIter I l 0) (hm : (l, listOf (xs.map strO.val).toArray n) ∈ news) (hnI : ∀ p ∈ news, p.1 ≠ I) (hx : xs = x0 :: xs')
    (turn : ∀ x ∈ xs, ∀ (h : Heap) (tk : Nat) (nw : Led), Fr h₀ L h m → News h₀ L h nw → wpAny (model prog w) A.in1 (call (.ref q) [strO.val x]) (KeyEnd h₀ L m nw (kf x.1) { s with heap := h, toks := tk }) (fun _ _ => False) { s with heap := h, toks := tk })
    (hQ : ∀ h' tk', Fr h₀ L h' m → News h₀ L h' news → Q (strO.val (bestBy smore kf x0 xs')) { s with heap := h', toks := tk' }) :
    wpAny (model prog w) A (call (.builtin "max") [.ref I] [(Str.ofString "default", d), (Str.ofString "key", .ref q)]) Q E s := by
  have hname : (toString "max" ++ toString ".loop" : String) = "max.loop" := by decide
  have hlI : l ≠ I := hnI _ hm
  have hL : L < s.heap.objs.size := F.ns.lt
  refine kmk_tree PySem.F.kind_max PySem.F.plain_max PySem.F.entry_max (max_args _ _ _) ?_
  show wpAny _ A.in1 (Builtin.Builtins.bindParams "max" ["key", "default"] 0 ⟨[], [(Str.ofString "default", d), (Str.ofString "key", .ref q)]⟩ >>= _) _ _ s
  refine wpAny_bind (wpAny_of_eq (show Builtin.Builtins.bindParams "max" ["key", "default"] 0 ⟨[], [(Str.ofString "default", d), (Str.ofString "key", .ref q)]⟩ = pure [some (.ref q), some d] from rfl) ?_)
  refine wpAny_bind (wpAny_pure ?_)
  refine wpAny_bind (wpAny_pyIter_listiter hit ?_)
  refine wpAny_bind (wpAny_newList ?_ (Nat.zero_le _))
  rw [hname]
  have nI := N _ (.head _)
  have Nn : News h₀ L s.heap news := fun p hp => N p (.tail _ hp)
  have hIs : I < s.heap.objs.size := Heap.lt_size nI.1
  have hSI : s.heap.objs.size ≠ I := Nat.ne_of_gt hIs
  have hnS : ∀ p ∈ news, p.1 ≠ s.heap.objs.size := fun p hp => Nat.ne_of_lt (Heap.lt_size (Nn p hp).1)
  refine wpAny_pure ⟨plainId_quiet PySem.F.plain_max_loop _, ?_⟩
  have gS : (s.heap.push (seqObj "list" #[] 0)).get? s.heap.objs.size = some (seqObj "list" #[] 0) := Heap.get?_push_size _ rfl
  have aS : s.heap.objs.size ≠ L := Nat.ne_of_gt hL
  have zS : h₀.get? s.heap.objs.size = none := next_is_new F
  have W := Walks.list (prog := prog) (w := w) (A := A.in1) hh I l hlI (xs.map strO.val).toArray
  have hsz : (xs.map strO.val).toArray.size = xs.length := by simp
  have hne : 0 < xs.length := by rw [hx]; simp
  have FH : Fr h₀ L (s.heap.push (seqObj "list" #[] 0)) m := F.push _
  have NH : News h₀ L (s.heap.push (seqObj "list" #[] 0)) news := fun p hp => ⟨Heap.get?_push_of_some _ (Nn p hp).1, (Nn p hp).2⟩
  have hitH : (s.heap.push (seqObj "list" #[] 0)).IsListIter I l 0 := hit.at fun o e => Heap.get?_push_of_some _ e
  refine codeAny_builtin PySem.F.entry_max_loop ?_
  rw [Around.under_plainId PySem.F.plain_max_loop _]
  show wpAny _ A.in1 (seqItems? (.ref _) >>= _) _ _ _
  refine wpAny_bind (wpAny_seqItems gS rfl ?_)
  show wpAny _ A.in1 (tryCatch (pyNext (.ref I)) _ >>= _) _ _ _
  refine wpAny_bind (wpAny_tryCatch (W.item 0 _ _ _ (by rw [hsz]; exact hne) ⟨hitH, PySem.IsL.isList (n := n) (NH _ hm).1⟩ fun v h' tk' hP hst' hk' => ?_))
  have hv : v = strO.val x0 := by
    have : some v = some (strO.val x0) := by rw [← hP]; simp [hx]
    exact Option.some.inj this
  subst hv
  obtain ⟨oI', hoI', hoc, hod⟩ := id hst'.1
  have F1 := kmk_fr FH hk' nI.2.1 nI.2.2
  have N1 : News h₀ L h' ((s.heap.objs.size, seqObj "list" #[] 0) :: (I, oI') :: news) := fun p hp => by
    rcases List.mem_cons.mp hp with rfl | hp
    · exact ⟨hk' _ _ (by simpa using hSI) gS, aS, zS⟩
    · rcases List.mem_cons.mp hp with rfl | hp
      · exact ⟨hoI', nI.2⟩
      · exact kmk_news NH hk' hnI p hp
  show wpAny _ A.in1 (tryCatch (holding [strO.val x0] (call (.ref q) [strO.val x0])) _ >>= _) _ _ _
  refine wpAny_bind (wpAny_tryCatch (wpAny_holding (wpAny_mono (turn x0 (by rw [hx]; exact .head _) h' tk' _ F1 N1) (fun x s'' he => ?_) fun _ _ hF => hF.elim)))
  obtain ⟨h2, tk2, t2, rfl, rfl, F2, N2⟩ := he
  have nS2 := N2 _ (.head _)
  have nI2 := N2 _ (.tail _ (.head _))
  have s1 := Heap.SameBut.update h2 s.heap.objs.size (Obj.mapSeq fun _ => #[strO.val x0, .str (kf x0.1) t2])
  obtain ⟨c2, hc2⟩ : ∃ c2, (h2.update s.heap.objs.size (Obj.mapSeq fun _ => #[strO.val x0, .str (kf x0.1) t2])).get? s.heap.objs.size = some (seqObj "list" #[strO.val x0, .str (kf x0.1) t2] c2) := ⟨_, get?_update_seq nS2.1 fun _ => #[strO.val x0, .str (kf x0.1) t2]⟩
  show wpAny _ A.in1 (updateSeq s.heap.objs.size (fun _ => #[strO.val x0, .str (kf x0.1) t2]) >>= _) _ _ _
  refine wpAny_bind ?_
  refine wpAny_updateSeq nS2.1 rfl ?_
  rw [hname]
  refine wpAny_pure ⟨plainId_quiet PySem.F.plain_max_loop _, max_loop kf hh hm hSI hnS hnI turn _ 1 x0 _ _ t2 c2 oI' rfl hne (fun h9 tk9 F9 N9 => ?_) (ksk_fr F2 s1 nS2.2.1 nS2.2.2) (fun p hp => ?_) ⟨oI', (s1.2 _ hSI.symm).trans nI2.1, hoc, hod⟩⟩
  · rw [hx]; exact hQ h9 tk9 F9 N9
  · rcases List.mem_cons.mp hp with rfl | hp
    · exact ⟨hc2, nS2.2⟩
    · rcases List.mem_cons.mp hp with rfl | hp
      · exact ⟨(s1.2 _ hSI.symm).trans nI2.1, nI2.2⟩
      · exact ksk_news (fun p hp => N2 p (.tail _ (.tail _ hp))) s1 hnS p hp
end

-- text: LoopD
/-- a turn's end where the draws may have gone on -/
inductive DEnd {σ : Type} (h₀ : Heap) (L : Addr) (s : Shared) (I : Addr) (o : Obj) (Ld : σ → Led) (ps : σ → List (Str × Value)) (stored : List Str) (m₀ : Str → Option Value) (P : σ → Prop) : Shared → Prop
  | mk (c' : σ) (h' : Heap) (tk : Nat) (d : Drawn) (m' : Str → Option Value) (F : Fr h₀ L h' m') (N : News h₀ L h' ((I, o) :: Ld c')) (off : ∀ p ∈ Ld c', p.1 ≠ I) (hp : ∀ p ∈ ps c', m' p.1 = some p.2) (hr : ∀ z, (∀ p ∈ ps c', z ≠ p.1) → stored.contains z = false → m' z = m₀ z) (hP : P c') : DEnd h₀ L s I o Ld ps stored m₀ P { s with heap := h', toks := tk, drawn := d }
inductive DInv {σ : Type} (h₀ : Heap) (L : Addr) (s : Shared) (I : Addr) (n : Nat) (Ld : σ → Led) (ps : σ → List (Str × Value)) (stored : List Str) (m₀ : Str → Option Value) (P : Nat → σ → Prop) : Nat → Shared → Prop
  | mk (h' : Heap) (tk : Nat) (d : Drawn) (m' : Str → Option Value) (c' : σ) (i : Nat) (st : IsRangeIter h' I (0 + (i : Nat) * 1) ((n : Int) - (i : Nat)) 1) (F : Fr h₀ L h' m') (N : News h₀ L h' (Ld c')) (off : ∀ p ∈ Ld c', p.1 ≠ I) (hp : ∀ p ∈ ps c', m' p.1 = some p.2) (hr : ∀ z, (∀ p ∈ ps c', z ≠ p.1) → stored.contains z = false → m' z = m₀ z) (hP : P i c') (hi : i ≤ n) : DInv h₀ L s I n Ld ps stored m₀ P (n + 1 - i) { s with heap := h', toks := tk, drawn := d }
noncomputable def DPost {σ : Type} (h₀ : Heap) (L : Addr) (s : Shared) (I : Addr) (o : Obj) (Ld : σ → Led) (ps : σ → List (Str × Value)) (stored : List Str) (m₀ : Str → Option Value) (P : σ → Prop) (Q : Flow → Shared → Prop) (f : Flow) (s₂ : Shared) : Prop :=
  match f with
  | .ret v => Q (.ret v) s₂
  | .brk => Q .next s₂
  | _ => DEnd h₀ L s I o Ld ps stored m₀ P s₂
theorem d_end {σ : Type} {h₀ : Heap} {L : Addr} {s : Shared} {I : Addr} {o : Obj} {Ld : σ → Led} {ps : σ → List (Str × Value)} {stored : List Str} {m₀ m' : Str → Option Value} {all : Led} {P : σ → Prop} {Q : Flow → Shared → Prop} {h' : Heap} {tk : Nat} {d : Drawn} (c' : σ)
    (F : Fr h₀ L h' m') (N : News h₀ L h' all) (hn : ∀ p ∈ (I, o) :: Ld c', p ∈ all) (off : ∀ p ∈ Ld c', p.1 ≠ I) (hp : ∀ p ∈ ps c', m' p.1 = some p.2) (hr : ∀ z, (∀ p ∈ ps c', z ≠ p.1) → stored.contains z = false → m' z = m₀ z) (hP : P c') :
    DPost h₀ L s I o Ld ps stored m₀ P Q .next { s with heap := h', toks := tk, drawn := d } := DEnd.mk c' h' tk d m' F (fun p hp => N p (hn p hp)) off hp hr hP
section
variable {prog : Program} {w : World} {A : Around} {E : Value → Shared → Prop} {s : Shared} {env : Env} {h₀ : Heap} {target : Expr} {body : List Stmt} {Q : Flow → Shared → Prop}
theorem range_loopD {σ : Type} {I : Addr} {n : Nat} {m₀ : Str → Option Value} (Ld : σ → Led) (ps : σ → List (Str × Value)) (stored : List Str) (P : Nat → σ → Prop) (hh : A.handled = none) (hI : h₀.get? I = none) (hL : env.locals ≠ I) (hnt : ∀ v, letOwnedTupleGo target (.ref I) v = pure ())
    (turn : ∀ (i : Nat) (c : σ) (u : Str → Option Value) (t : Tok) (h : Heap) (tk : Nat) (d : Drawn) (o : Obj), i < n → P i c → (∀ p ∈ Ld c, p.1 ≠ I) → Fr h₀ env.locals h (kstB (fun z => if stored.contains z then u z else m₀ z) (ps c)) → News h₀ env.locals h ((I, o) :: Ld c) →
      wpAny (model prog w) A (assign target env (.int (i : Nat) t)) (fun _ s₂ => wpAny (model prog w) A (execs body env) (DPost h₀ env.locals s I o Ld ps stored m₀ (P (i + 1)) Q) E s₂) E { s with heap := h, toks := tk, drawn := d })
    (done : ∀ (c : σ) (u : Str → Option Value) (h : Heap) (tk : Nat) (d : Drawn), P n c → Fr h₀ env.locals h (kstB (fun z => if stored.contains z then u z else m₀ z) (ps c)) → News h₀ env.locals h (Ld c) → Q .next { s with heap := h, toks := tk, drawn := d })
    (hE : PassesOwn (model prog w) A env E)
    (hit : IsRangeIter s.heap I 0 n 1) (c : σ) (m : Str → Option Value) (h1 : ∀ p ∈ ps c, m p.1 = some p.2) (h2 : ∀ z, (∀ p ∈ ps c, z ≠ p.1) → stored.contains z = false → m z = m₀ z) (hP : P 0 c) (F : Fr h₀ env.locals s.heap m) (N : News h₀ env.locals s.heap (Ld c)) (hoff : ∀ p ∈ Ld c, p.1 ≠ I) :
    codeAny (model prog w) A (.forLoop target (.ref I) body [] env) (fun r s' => match r with | .ok f => Q f s' | .error e => cameBackBy (model prog w) A env E e s') s := by
  have W : Walks prog w A I [I] [I] n (fun i v => i < n ∧ ∃ t, v = .int (0 + (i : Int) * 1) t) (fun i h => IsRangeIter h I (0 + (i : Nat) * 1) ((n : Int) - (i : Nat)) 1) := (Walks.range hh I 0 1 n).bound
  have st0 : IsRangeIter s.heap I (0 + ((0 : Nat) : Int) * 1) ((n : Int) - ((0 : Nat) : Int)) 1 := by
    have e1 : (0 : Int) + ((0 : Nat) : Int) * 1 = 0 := by simp
    have e2 : (n : Int) - ((0 : Nat) : Int) = n := by simp
    rw [e1, e2]; exact hit
  refine codeAny_forLoop_any
    (DInv h₀ env.locals s I n Ld ps stored m₀ P) ?_ (n + 1) (.mk s.heap s.toks s.drawn m c 0 st0 F N hoff h1 h2 hP (Nat.zero_le _))
  intro k s' hX9
  induction hX9
  rename_i h' tk d m' c' i hst' F' N' hoff' h1' h2' hP' hi
  have old : ∀ b o, h₀.get? b = some o → b ∉ [I] := fun b o e hb => by rw [List.mem_singleton.mp hb, hI] at e; cases e
  have next : ∀ h₁ : Heap, (∀ b o, b ∉ [I] → h'.get? b = some o → h₁.get? b = some o) → Fr h₀ env.locals h₁ m' ∧ News h₀ env.locals h₁ (Ld c') := fun h₁ hk₁ =>
    ⟨⟨F'.ns.at' fun o e => hk₁ _ o (by simpa using hL) e, fun b o e => hk₁ b o (old b o e) (F'.keep b o e), F'.above⟩, fun p hp => ⟨hk₁ _ _ (by simpa using hoff' p hp) (N' p hp).1, (N' p hp).2⟩⟩
  by_cases hlt : i < n
  · refine W.item i _ _ _ hlt hst' fun v h₁ tk₁ hPv hst₁ hk₁ => ?_
    obtain ⟨_, t, rfl⟩ := hPv
    refine wpAny_of_eq (hnt _) ?_
    have z₁ := next h₁ hk₁
    obtain ⟨o, ho⟩ : ∃ o, h₁.get? I = some o := ⟨_, hst₁⟩
    have N₂ : News h₀ env.locals h₁ ((I, o) :: Ld c') := List.forall_mem_cons.mpr ⟨⟨ho, fun e => hL e.symm, hI⟩, z₁.2⟩
    have ev : (0 : Int) + (i : Int) * 1 = (i : Nat) := by omega
    have tn := turn i c' m' t h₁ tk₁ d o hlt hP' hoff' (ksw_fr h1' h2' z₁.1) N₂
    rw [← ev] at tn
    refine wpAny_mono tn (fun _ s₂ q => wpAny_mono (wpAny_passesOwn hE q) (fun f s₃ z => ?_) fun _ _ e => e) hE
    have fin : DEnd h₀ env.locals s I o Ld ps stored m₀ (P (i + 1)) s₃ → ∃ m_1, m_1 < n + 1 - i ∧ DInv h₀ env.locals s I n Ld ps stored m₀ P m_1 s₃ := by
      intro hX9
      induction hX9
      rename_i c2 h2 tk2 d2 m2 F2 N2 off2 a2 b2 P2
      have e3 : h₁.get? I = some _ := hst₁
      exact ⟨_, meas_succ hlt, .mk h2 tk2 d2 m2 c2 (i + 1) ((N2 _ (.head _)).1.trans (ho.symm.trans e3)) F2 (fun p hp => N2 p (.tail _ hp)) off2 a2 b2 P2 hlt⟩
    cases f with
    | ret v => exact z
    | brk => exact z
    | next => exact fin z
    | cont => exact fin z
  · have hin : i = n := by omega
    subst hin
    refine W.done _ _ _ hst' fun h₁ tk₁ hk₁ => wpAny_execs_nil ?_
    exact done c' m' h₁ tk₁ d hP' (ksw_fr h1' h2' (next h₁ hk₁).1) (next h₁ hk₁).2
end

-- text: It
noncomputable abbrev lstIt (l : Addr) (i : Nat) : Obj := { cls := .type "list_iterator", data := .fields #[.ref l, .int i 0] }
section
variable {prog : Program} {w : World} {A : Around} {E : Value → Shared → Prop} {s : Shared} {h₀ : Heap} {L l I : Addr} {m : Str → Option Value} {news : Led} {vs : List Value} {n i : Nat}
theorem iter_list_led {Q : Value → Shared → Prop} (F : Fr h₀ L s.heap m) (N : News h₀ L s.heap news) (hm : (l, listOf vs.toArray n) ∈ news) (h : ∀ (I : Addr) (h' : Heap), Fr h₀ L h' m → News h₀ L h' ((I, lstIt l 0) :: news) → AllLt I news → Q (.ref I) { s with heap := h' }) :
    wpAny (model prog w) A (call (.builtin "iter") [.ref l]) Q E s := by
  refine Calls.call_function_entry (by decide +kernel) (by decide +kernel) kdk_entry_iter (kdk_args_iter _) ?_
  unfold Builtin.«iter»
  refine wpAny_bind (m := someArgs "iter" 1 2 _) (wpAny_of_eq (a := [Value.ref l]) (by first | rfl | kernel_rfl!) ?_)
  show wpAny _ _ (pyIter (.ref l) >>= _) _ _ _
  refine wpAny_bind (wpAny_pyIter_list (PySem.IsL.isList (n := n) (N _ hm).1) ?_)
  exact wpAny_pure ⟨_, rfl, h _ _ (F.push _) (News.push F N _ rfl) (allLt_of fun q hq => Heap.lt_size (N q hq).1)⟩
theorem iter_it_led {Q : Value → Shared → Prop} (N : News h₀ L s.heap news) (hm : (I, lstIt l i) ∈ news) (h : Q (.ref I) s) :
    wpAny (model prog w) A (call (.builtin "iter") [.ref I]) Q E s := by
  refine Calls.call_function_entry (by decide +kernel) (by decide +kernel) kdk_entry_iter (kdk_args_iter _) ?_
  unfold Builtin.«iter»
  refine wpAny_bind (m := someArgs "iter" 1 2 _) (wpAny_of_eq (a := [Value.ref I]) (by first | rfl | kernel_rfl!) ?_)
  show wpAny _ _ (pyIter (.ref I) >>= _) _ _ _
  exact wpAny_bind (wpAny_pyIter_listiter ⟨_, (N _ hm).1, rfl, rfl⟩ (wpAny_pure ⟨_, rfl, h⟩))
end

-- text: Obj
theorem mro_object : mroOf (.type "object") = pure [.type "object"] := by rw [mroOf_type]; kernel_rfl
theorem lookup_object_new : typeLookup (.type "object") "__new__" = pure (some (.builtin "object.__new__")) := by rw [typeLookup_type, builtinLookup_eq_fast]; kernel_rfl
theorem called_object : TypeCalled "object" "object.__new__" "object.__init__" :=
  ⟨by decide +kernel, by decide +kernel, ⟨_, _, mro_object⟩, madeBy_type mro_object lookup_object_new (by decide +kernel), by decide +kernel, by rw [isSubtype_type]; kernel_rfl, PySem.F.slot_object_init⟩
theorem typeCall_object : checkTypeCall "object" ⟨[], []⟩ = pure () := by kernel_rfl
theorem newCall_object : checkBuiltinCall "object.__new__" ⟨[.type "object"], []⟩ = pure () := by kernel_rfl
theorem entry_object_new : entryFor table "object.__new__" = some Builtin.«object.__new__» := entryFor_of_tree (by kernel_rfl)
theorem plain_object_new : plainId "object.__new__" = true := by decide +kernel

-- text: Obj2
section
variable {prog : Program} {w : World} {A : Around} {E : Value → Shared → Prop} {s : Shared}
theorem code_object {Q₁ : Value → Shared → Prop} (h : Q₁ (.ref s.heap.objs.size) { s with heap := s.heap.push { cls := .type "object", data := .plain } }) :
    codeAny (model prog w) A (.call (.builtin "object.__new__") ⟨[.type "object"], []⟩) (wants Q₁ E) s := by
  refine codeAny_of_tree ?_
  show wpAny _ A.in1 (do checkBuiltinCall "object.__new__" ⟨[.type "object"], []⟩; again (.builtin "object.__new__" ⟨[.type "object"], []⟩)) _ _ s
  refine wpAny_bind (wpAny_of_eq newCall_object (wpAny_pure ⟨plainId_quiet plain_object_new _, codeAny_builtin entry_object_new ?_⟩))
  rw [Around.under_plainId plain_object_new _]
  unfold Builtin.«object.__new__»
  dsimp only
  refine wpAny_bind (wpAny_of_eq (a := true) rfl ?_)
  simp only [Bool.not_true, Bool.false_eq_true, if_false]
  rw [if_neg (by decide +kernel)]
  refine wpAny_bind (wpAny_of_eq (a := ()) (by kernel_rfl) ?_)
  simp only [List.isEmpty_nil, Bool.not_true, Bool.or_self, Bool.false_eq_true, if_false]
  rw [if_neg (by decide +kernel)]
  refine wpAny_bind (wpAny_pure (wpAny_bind (wpAny_newObj_type ?_)))
  rw [if_neg (by decide +kernel)]
  exact wpAny_pure h
theorem call_object {Q : Value → Shared → Prop} (h : Q (.ref s.heap.objs.size) { s with heap := s.heap.push { cls := .type "object", data := .plain } }) :
    wpAny (model prog w) A (call (.type "object") []) Q E s := by
  refine callType_codes (Q₁ := fun obj s₁ => obj = .ref s.heap.objs.size ∧ s₁ = { s with heap := s.heap.push { cls := .type "object", data := .plain } }) called_object typeCall_object PySem.F.entry_object_init (code_object ⟨rfl, rfl⟩) ?_
  rintro obj s₁ ⟨rfl, rfl⟩
  refine ⟨⟨_, Heap.get?_push_size _ rfl, rfl⟩, PySem.F.args_object_init_1 _, ?_⟩
  exact wpAny_pure ⟨rfl, h⟩
end
section
variable {prog : Program} {w : World} {A : Around} {E : Value → Shared → Prop} {s : Shared} {h₀ : Heap} {L : Addr} {m : Str → Option Value} {news : Led}
theorem object_led {Q : Value → Shared → Prop} (F : Fr h₀ L s.heap m) (N : News h₀ L s.heap news) (h : ∀ (I : Addr) (h' : Heap), Fr h₀ L h' m → News h₀ L h' ((I, { cls := .type "object", data := .plain }) :: news) → AllLt I news → Q (.ref I) { s with heap := h' }) :
    wpAny (model prog w) A (call (.type "object") []) Q E s :=
  call_object (h _ _ (F.push _) (News.push F N _ rfl) (allLt_of fun q hq => Heap.lt_size (N q hq).1))
end

-- text: Ns1
noncomputable abbrev ConK (w : World) (mean : ExcName → Option Value) (mg mb : Str → Option Value) (f : Addr) (dn un' : Nat) (news : Led) (args : List Value) (kw : List (Str × Value)) (Ret : Value → Led → Prop) : Prop :=
  ∀ (dp un : Nat) (gd : Option (List Code)) (cn : Str) (cs : Scope) (a : Addr) (ccd : Value) (cl : List (Str × Addr)) (outer : List Env) (A₀ : Around) (base h₀ : Heap) (L : Addr) (m : Str → Option Value) (s : Shared) (Q E : Value → Shared → Prop),
    Below A₀ base outer h₀ → Fr h₀ L s.heap m → (hd.heap_1 w.params).In h₀ → News h₀ L s.heap news → Top q0 (looseW q0 loose0) mean mg mb h₀ → cs.kind = .function →
    dp + dn < recursionLimit → un + un' < cLine →
    (∀ r news' h' tk', Fr h₀ L h' m → News h₀ L h' news' → Ret r news' → Q r { s with heap := h', toks := tk' }) →
    wpAny (model PySem.Challenge.rw_nq0173_01.row.prog w) (ktrTop dp un gd cn cs L a ccd cl outer) (call (.ref f) args kw) Q E s
theorem news_drop2 {h₀ h : Heap} {L : Addr} {a b c : Addr × Obj} {r : Led} (N : News h₀ L h (a :: b :: c :: r)) : News h₀ L h (a :: r) := fun p hp => N p (by
  rcases List.mem_cons.mp hp with rfl | hp
  · exact .head _
  · exact .tail _ (.tail _ (.tail _ hp)))
theorem ns1_con {w : World} {mean : ExcName → Option Value} {mg mb : Str → Option Value} {rest : Led} {l : Addr} {xs xs' : List (Str × Tok)} {x0 : Str × Tok} {n : Nat} {t : Tok} (hx : xs = x0 :: xs') (hlen : xs.length < 1000) {kf : Str → Str} (hkey : ∀ x ∈ xs, ∀ nw, Con w mean mg mb 111 4 32 nw [strO.val x] (fun r nw' => (∃ t, r = .str (kf x.1) t) ∧ nw' = nw)) :
    ConK w mean mg mb 187 7 50 ((l, listOf (xs.map strO.val).toArray n) :: rest) [.int 1 t, .ref l] [(Str.ofString "key", .ref 111)] (fun r news' => ∃ D k t', r = .ref D ∧ news' = (D, listOf [Value.str (bestBy sless kf x0 xs').1 t'].toArray k) :: (l, listOf (xs.map strO.val).toArray n) :: rest ∧ AllLt D ((l, listOf (xs.map strO.val).toArray n) :: rest)) := by
  have mk13 : True := .intro
  unfold ConK
  k_fill
  intro dp un gd cn cs a ccd cl outer A₀ base h₀ L m s Q E B F X N T hk hd hu hret
  refine wpAny_call ?_
  k_dflt (k_extra "m:enterD")
  refine toks_any fun tk0 => ?_
  k_with "m:own" => ((fail_if_success fail_if_success clear mk13); (((with_reducible show wpAny _ _ (call (Value.builtin "iter") [Value.ref _]) _ _ _); k_dflt (refine' iter_list_led ?k1 ?k2 ?k3 ?_; (case k1 => k_asm); (case k2 => k_asm); (case k3 => k_mem); k_whole); intro I' h' F' N' lI'; (try k_sweep))))
  k_with "m:own" => ((fail_if_success fail_if_success clear mk13); (((with_reducible show wpAny _ _ (call (Value.type "object") []) _ _ _); k_dflt (refine' object_led ?k1 ?k2 ?_; (case k1 => k_asm); (case k2 => k_asm); k_whole); intro O' h' F' N' lO'; (try k_sweep))))
  k_extra "m:steps"
  (rename Fr _ _ _ _ => Fn)
  (rename News _ _ _ _ => Nn)
  show wpAny _ _ (call (.builtin "min") [.ref I'] [(Str.ofString "default", .ref O'), (Str.ofString "key", .ref 111)]) _ _ _
  k_dflt (refine min_key (l := l) (I := I') (xs := xs) (n := n) kf rfl Fn (news_swap Nn) ⟨_, (Nn _ (.tail _ (.head _))).1, rfl, rfl⟩ ?p2 ?p3 hx ?p4 ?p5)
  case p2 => k_mem
  case p3 =>
    intro p hp
    rcases List.mem_cons.mp hp with rfl | hp
    · exact Nat.ne_of_gt lO'.1
    · exact allLt_out lI' p hp
  case p4 =>
    intro x hx9 h9 tk9 nw9 F9 N9
    clear Fn Nn
    k_dflt (refine' Con.useT ?k1 ?k2 ?k3 ?k4 ?k5 ?k6 (hkey x hx9 nw9) ?k7 ?k8 ?_)
    k_extra "m:use"
    intro t' h' tk' F' N'
    exact ⟨h', tk', t', rfl, rfl, F', N'⟩
  case p5 =>
    intro h9 tk9 F9 N9
    clear Fn Nn
    generalize hb9 : bestBy sless kf x0 xs' = b9 at *
    obtain ⟨b1, b2⟩ := b9
    have e9 : strO.val (b1, b2) = Value.str b1 b2 := rfl
    rw [e9]
    k_with "m:own" => ((fail_if_success fail_if_success clear mk13); (((with_reducible show wpAny _ _ (compareOp CmpOp.Is (Value.str _ _) (Value.ref _)) _ _ _); refine wpAny_is_other (by rfl) (by intro x; cases x) ?_)))
    k_extra "m:steps"
    (rename Fr h₀ _ _ _ => Fz)
    (rename News h₀ _ _ _ => Nz)
    (rename _ ∧ _ ∧ _ ∧ AllLt _ _ => l9)
    exact hret _ _ _ _ Fz (news_drop2 Nz) ⟨_, 0, b2, rfl, rfl, l9.2.2⟩

-- text: Nl1
theorem news_rot3 {h₀ h : Heap} {L : Addr} {a b c : Addr × Obj} {r : Led} (N : News h₀ L h (a :: b :: c :: r)) : News h₀ L h (c :: a :: b :: r) := fun p hp => N p (by
  rcases List.mem_cons.mp hp with rfl | hp
  · exact .tail _ (.tail _ (.head _))
  · rcases List.mem_cons.mp hp with rfl | hp
    · exact .head _
    · rcases List.mem_cons.mp hp with rfl | hp
      · exact .tail _ (.head _)
      · exact .tail _ (.tail _ (.tail _ hp)))
theorem nl1_con {w : World} {mean : ExcName → Option Value} {mg mb : Str → Option Value} {rest : Led} {l J : Addr} {xs xs' : List (Str × Tok)} {x0 : Str × Tok} {n : Nat} {t : Tok} (hx : xs = x0 :: xs') (hlen : xs.length < 1000) (offJ : ∀ p ∈ (l, listOf (xs.map strO.val).toArray n) :: rest, p.1 ≠ J) {kf : Str → Str} (hkey : ∀ x ∈ xs, ∀ nw, Con w mean mg mb 111 4 32 nw [strO.val x] (fun r nw' => (∃ t, r = .str (kf x.1) t) ∧ nw' = nw)) :
    ConK w mean mg mb 193 7 50 ((J, lstIt l 0) :: (l, listOf (xs.map strO.val).toArray n) :: rest) [.int 1 t, .ref J] [(Str.ofString "key", .ref 111)] (fun r news' => ∃ D k t', r = .ref D ∧ news' = (D, listOf [Value.str (bestBy smore kf x0 xs').1 t'].toArray k) :: (l, listOf (xs.map strO.val).toArray n) :: rest ∧ AllLt D ((l, listOf (xs.map strO.val).toArray n) :: rest)) := by
  have mk14 : True := .intro
  unfold ConK
  k_fill
  intro dp un gd cn cs a ccd cl outer A₀ base h₀ L m s Q E B F X N T hk hd hu hret
  refine wpAny_call ?_
  k_dflt (k_extra "m:enterD")
  refine toks_any fun tk0 => ?_
  k_with "m:own" => ((fail_if_success fail_if_success clear mk14); (((with_reducible show wpAny _ _ (call (Value.builtin "iter") [Value.ref _]) _ _ _); k_dflt (refine' iter_it_led ?k2 ?k3 ?_; (case k2 => k_asm); (case k3 => k_mem); k_whole))))
  k_with "m:own" => ((fail_if_success fail_if_success clear mk14); (((with_reducible show wpAny _ _ (call (Value.type "object") []) _ _ _); k_dflt (refine' object_led ?k1 ?k2 ?_; (case k1 => k_asm); (case k2 => k_asm); k_whole); intro O' h' F' N' lO'; (try k_sweep))))
  k_extra "m:steps"
  (rename Fr _ _ _ _ => Fn)
  (rename News _ _ _ _ => Nn)
  show wpAny _ _ (call (.builtin "max") [.ref J] [(Str.ofString "default", .ref O'), (Str.ofString "key", .ref 111)]) _ _ _
  k_dflt (refine max_key (l := l) (I := J) (xs := xs) (n := n) kf rfl Fn (news_rot3 Nn) ⟨_, (Nn _ (.tail _ (.tail _ (.head _)))).1, rfl, rfl⟩ ?p2 ?p3 hx ?p4 ?p5)
  case p2 => k_mem
  case p3 =>
    intro p hp
    rcases List.mem_cons.mp hp with rfl | hp
    · exact Nat.ne_of_gt lO'.2.1
    · rcases List.mem_cons.mp hp with rfl | hp
      · exact Nat.ne_of_gt (Nat.lt_succ_of_lt (l1' _ (.head _)))
      · exact offJ p hp
  case p4 =>
    intro x hx9 h9 tk9 nw9 F9 N9
    clear Fn Nn
    k_dflt (refine' Con.useT ?k1 ?k2 ?k3 ?k4 ?k5 ?k6 (hkey x hx9 nw9) ?k7 ?k8 ?_)
    k_extra "m:use"
    intro t' h' tk' F' N'
    exact ⟨h', tk', t', rfl, rfl, F', N'⟩
  case p5 =>
    intro h9 tk9 F9 N9
    clear Fn Nn
    generalize hb9 : bestBy smore kf x0 xs' = b9 at *
    obtain ⟨b1, b2⟩ := b9
    have e9 : strO.val (b1, b2) = Value.str b1 b2 := rfl
    rw [e9]
    k_with "m:own" => ((fail_if_success fail_if_success clear mk14); (((with_reducible show wpAny _ _ (compareOp CmpOp.Is (Value.str _ _) (Value.ref _)) _ _ _); refine wpAny_is_other (by rfl) (by intro x; cases x) ?_)))
    k_extra "m:steps"
    (rename Fr h₀ _ _ _ => Fz)
    (rename News h₀ _ _ _ => Nz)
    (rename _ ∧ _ ∧ _ ∧ AllLt _ _ => l9)
    exact hret _ _ _ _ Fz (news_drop2 Nz) ⟨_, 0, b2, rfl, rfl, l9.2.2⟩

-- text: CompG
section
open PyProof.Rows.LCg (NsObj ns_obj lst lst_snoc)
noncomputable abbrev testsOf (ifs : List PySem.Expr) (env : Env) : Sem Bool := forIn ifs true fun c r => if r = true then do let ok ← isTrue c env (eval c env); pure (ForInStep.yield ok) else pure (ForInStep.yield r)
section
variable {prog : Program} {w : World} {A : Around} {E : Value → Shared → Prop} {s : Shared}
theorem cg_loop {elt target iter : PySem.Expr} {ifs : List PySem.Expr} {scope : Scope} {pos : Pos} {it acc : Value} {env : Env} {R : Result → Shared → Prop} (I : Nat → Shared → Prop)
    (turn : ∀ n s, I n s → wpAny (model prog w) A (pyNext it) (fun r s₁ => match r with
      | none => R (.ok .next) s₁
      | some v => wpAny (model prog w) A (letOwnedTupleGo target it v) (fun _ s₀ => wpAny (model prog w) A (assign target env v) (fun _ s₂ =>
          wpAny (model prog w) A (testsOf ifs env) (fun ok s₃ => if ok = true then wpAny (model prog w) A (eval elt env) (fun x s₄ =>
            wpAny (model prog w) A (call (.builtin "list.append") [acc, x]) (fun _ s₅ => ∃ m, m < n ∧ I m s₅) (notedBy (model prog w) A env fun e s' => R (.error e) s') s₄) (notedBy (model prog w) A env fun e s' => R (.error e) s') s₃
            else ∃ m, m < n ∧ I m s₃) (notedBy (model prog w) A env fun e s' => R (.error e) s') s₂)
          (notedBy (model prog w) A env fun e s' => R (.error e) s') s₀) (notedBy (model prog w) A env fun e s' => R (.error e) s') s₁) (notedBy (model prog w) A env fun e s' => R (.error e) s') s)
    (n : Nat) (h : I n s) : codeAny (model prog w) A (.compLoop (.ListComp elt [⟨target, iter, ifs, 0⟩] scope pos) 0 it acc env) R s := by
  refine codeAny_loop rfl I (fun n s hI => ?_) n h
  show wpAny _ A ((compTurn (.ListComp elt [⟨target, iter, ifs, 0⟩] scope pos) 0 it acc env).onRaise (fun x => do noteFrame x env; theTreesLotGoes x)) _ _ s
  refine wpAny_noted ?_
  rw [compTurn_list]
  refine wpAny_bind (wpAny_standAt (wpAny_bind (wpAny_mono (turn n s hI) (fun r s₁ h₁ => ?_) fun _ _ h' => h')))
  cases r with
  | none => exact wpAny_pure h₁
  | some v =>
    refine wpAny_bind (wpAny_mono h₁ (fun _ s₀ h₀' => ?_) fun _ _ h' => h')
    refine wpAny_bind (wpAny_mono h₀' (fun _ s₂ h₂ => ?_) fun _ _ h' => h')
    refine wpAny_bind (wpAny_mono h₂ (fun okb s₃ h₃ => ?_) fun _ _ h' => h')
    cases okb with
    | false => exact wpAny_pure ⟨rfl, h₃⟩
    | true => exact wpAny_bind (wpAny_bind (wpAny_mono h₃ (fun x s₄ h₄ => wpAny_bind (wpAny_mono h₄ (fun _ s₅ h₅ => wpAny_pure (wpAny_pure ⟨rfl, h₅⟩)) fun _ _ h' => h')) fun _ _ h' => h'))
end
theorem tests_go {prog : Program} {w : World} {A : Around} {E : Value → Shared → Prop} {s : Shared} {elt : PySem.Expr} {env : Env} {R : Value → Shared → Prop} {Z : Shared → Prop} (h : wpAny (model prog w) A (eval elt env) R E s) : wpAny (model prog w) A (testsOf [] env) (fun ok s' => if ok = true then wpAny (model prog w) A (eval elt env) R E s' else Z s') E s := by
  refine wpAny_tests_nil ?_
  simp only [if_true]
  exact h
/-- the turns of an iterator, with what is known of its own things behind the last one -/
structure Turns (prog : Program) (w : World) (A : Around) (target : PySem.Expr) (I : Addr) (fp wr : List Addr) (n : Nat) (P Md : Nat → Value → Heap → Prop) (St : Nat → Heap → Prop) (Af : Led → Prop) : Prop where
  sub : ∀ b ∈ wr, b ∈ fp
  there : ∀ i h, St i h → ∀ b ∈ wr, ∃ o, h.get? b = some o
  frame : ∀ i h h', St i h → (∀ b ∈ fp, ∀ o, h.get? b = some o → h'.get? b = some o) → St i h'
  item : ∀ i (s : Shared) (Q : Option Value → Shared → Prop) (E : Value → Shared → Prop), i < n → St i s.heap →
    (∀ v h' tk, Md i v h' → (∀ b o, b ∉ wr → s.heap.get? b = some o → h'.get? b = some o) → Q (some v) { s with heap := h', toks := tk }) → wpAny (model prog w) A (pyNext (.ref I)) Q E s
  go : ∀ i v (s : Shared) (Q : Unit → Shared → Prop) (E : Value → Shared → Prop), Md i v s.heap →
    (∀ h', P i v h' → St (i + 1) h' → (∀ b o, b ∉ wr → s.heap.get? b = some o → h'.get? b = some o) → Q () { s with heap := h' }) → wpAny (model prog w) A (letOwnedTupleGo target (.ref I) v) Q E s
  done : ∀ (s : Shared) (Q : Option Value → Shared → Prop) (E : Value → Shared → Prop), St n s.heap →
    (∀ h' tk own, Af own → (∀ p ∈ own, h'.get? p.1 = some p.2 ∧ p.1 ∈ wr) → (∀ b o, b ∉ wr → s.heap.get? b = some o → h'.get? b = some o) → Q none { s with heap := h', toks := tk }) → wpAny (model prog w) A (pyNext (.ref I)) Q E s
  self : ∀ (s : Shared) (Q : Value → Shared → Prop) (E : Value → Shared → Prop), St 0 s.heap → Q (.ref I) s → wpAny (model prog w) A (pyIter (.ref I)) Q E s
noncomputable def NoOwn (l : Led) : Prop := l = []
theorem Turns.ofU {prog : Program} {w : World} {A : Around} {elts : List PySem.Expr} {k : Nat} {pos : Pos} {I : Addr} {fp wr : List Addr} {n : Nat} {Pt : Nat → Array Value → Prop} {St : Nat → Heap → Prop} {Mid : Nat → Addr → Heap → Prop} (W : WalksU prog w A I fp wr n Pt St Mid) (ht : ∀ i h, St i h → ∀ b ∈ wr, ∃ o, h.get? b = some o) :
    Turns prog w A (.Tuple elts k pos) I fp wr n (fun i v h => ∃ T vals, v = .ref T ∧ Pt i vals ∧ h.IsTuple T vals) (fun i v h => ∃ T vals, v = .ref T ∧ Pt i vals ∧ h.IsTuple T vals ∧ Mid i T h) St NoOwn where
  sub := W.sub
  there := ht
  frame := W.frame
  item := (KTurns.ofWalksU W (elts := elts) (k := k) (pos := pos)).item
  go := (KTurns.ofWalksU W).go
  done := fun s Q E st hQ => W.done s Q E st fun h' tk hk => hQ h' tk [] rfl (fun p hp => nomatch hp) hk
  self := fun s Q E st hQ => W.self 0 s Q E st hQ
theorem Turns.ofW {prog : Program} {w : World} {A : Around} {x : Str} {px : Pos} {I : Addr} {fp wr : List Addr} {n : Nat} {P : Nat → Value → Prop} {St : Nat → Heap → Prop} (W : Walks prog w A I fp wr n P St) (ht : ∀ i h, St i h → ∀ b ∈ wr, ∃ o, h.get? b = some o) :
    Turns prog w A (.Name x px) I fp wr n (fun i v _ => P i v) (fun i v h => P i v ∧ St (i + 1) h) St NoOwn where
  sub := W.sub
  there := ht
  frame := W.frame
  item := fun i s Q E hi st hQ => W.item i s Q E hi st fun v h' tk hP st' hk => hQ v h' tk ⟨hP, st'⟩ hk
  go := fun i v s Q E hm hQ => wpAny_pure (hQ s.heap hm.1 hm.2 fun _ _ _ e => e)
  done := fun s Q E st hQ => W.done s Q E st fun h' tk hk => hQ h' tk [] rfl (fun p hp => nomatch hp) hk
  self := fun s Q E st hQ => W.self 0 s Q E st hQ
theorem Turns.widen {prog : Program} {w : World} {A : Around} {target : PySem.Expr} {I : Addr} {fp wr wr' : List Addr} {n : Nat} {P Md : Nat → Value → Heap → Prop} {St : Nat → Heap → Prop} {Af : Led → Prop} (W : Turns prog w A target I fp wr n P Md St Af)
    (h1 : ∀ b ∈ wr, b ∈ wr') (h2 : ∀ b ∈ wr', b ∈ fp) (ht : ∀ i h, St i h → ∀ b ∈ wr', ∃ o, h.get? b = some o) : Turns prog w A target I fp wr' n P Md St Af where
  sub := h2
  there := ht
  frame := W.frame
  item := fun i s Q E hi st hQ => W.item i s Q E hi st fun v h' tk hm hk => hQ v h' tk hm fun b o hb e => hk b o (fun x => hb (h1 b x)) e
  go := fun i v s Q E hm hQ => W.go i v s Q E hm fun h' hp st hk => hQ h' hp st fun b o hb e => hk b o (fun x => hb (h1 b x)) e
  done := fun s Q E st hQ => W.done s Q E st fun h' tk own ha ho hk => hQ h' tk own ha (fun p hp => ⟨(ho p hp).1, h1 _ (ho p hp).2⟩) fun b o hb e => hk b o (fun x => hb (h1 b x)) e
  self := W.self
noncomputable def AllO : List Addr → (Led → Prop) → Prop
  | [], k => k []
  | a :: r, k => ∀ o : Obj, AllO r (fun its => k ((a, o) :: its))
theorem AllO.at {h : Heap} : ∀ {wr : List Addr} {k : Led → Prop}, AllO wr k → (∀ b ∈ wr, ∃ o, h.get? b = some o) → ∃ own : Led, k own ∧ (∀ p ∈ own, h.get? p.1 = some p.2 ∧ p.1 ∈ wr) ∧ ∀ b ∈ wr, ∃ o, (b, o) ∈ own
  | [], _, hk, _ => ⟨[], hk, (fun _ hp => nomatch hp), fun _ hb => nomatch hb⟩
  | a :: r, k, hk, ht => by
    obtain ⟨o, ho⟩ := ht a (.head _)
    obtain ⟨own, h1, h2, h3⟩ := AllO.at (hk o) fun b hb => ht b (.tail _ hb)
    refine ⟨(a, o) :: own, h1, fun p hp => ?_, fun b hb => ?_⟩
    · rcases List.mem_cons.mp hp with rfl | hp
      · exact ⟨ho, .head _⟩
      · exact ⟨(h2 p hp).1, .tail _ (h2 p hp).2⟩
    · rcases List.mem_cons.mp hb with rfl | hb
      · exact ⟨o, .head _⟩
      · obtain ⟨o', x⟩ := h3 b hb; exact ⟨o', .tail _ x⟩
noncomputable def Apt (wr : List Addr) (C D : Addr) (nw : Led) : Prop := ∀ p ∈ nw, p.1 ∉ wr ∧ p.1 ≠ C ∧ p.1 ≠ D
inductive CgEnd (h₀ : Heap) (L : Addr) (m : Str → Option Value) (s₁ : Shared) (own : Led) (wr : List Addr) (C : Addr) (oC : Obj) (D : Addr) (oD : Obj) (keep : Led) (rest : Value → Led → Prop) (y : Value) : Shared → Prop
  | mk (h' : Heap) (tk : Nat) (nw : Led) (F : Fr h₀ L h' m) (N : News h₀ L h' (own ++ (C, oC) :: (D, oD) :: nw)) (off : Apt wr C D nw) (hk : ∀ p ∈ keep, p ∈ nw) (r : rest y nw) : CgEnd h₀ L m s₁ own wr C oC D oD keep rest y { s₁ with heap := h', toks := tk }
theorem cg_end {h₀ : Heap} {L : Addr} {m : Str → Option Value} {s₁ : Shared} {own keep all : Led} {wr : List Addr} {C D : Addr} {oC oD : Obj} {rest : Value → Led → Prop} {y : Value} {h' : Heap} {tk : Nat} (nw : Led) (F : Fr h₀ L h' m) (N : News h₀ L h' all)
    (sub : ∀ p ∈ own ++ (C, oC) :: (D, oD) :: nw, p ∈ all) (off : Apt wr C D nw) (hk : ∀ p ∈ keep, p ∈ nw) (r : rest y nw) : CgEnd h₀ L m s₁ own wr C oC D oD keep rest y { s₁ with heap := h', toks := tk } :=
  .mk h' tk nw F (fun p hp => N p (sub p hp)) off hk r
inductive CgInv (h₀ : Heap) (L : Addr) (m : Str → Option Value) (s₂ : Shared) (St : Nat → Heap → Prop) (C D : Addr) (wr : List Addr) (keep : Led) (J : Nat → List Value → Led → Prop) (n : Nat) : Nat → Shared → Prop
  | mk (h' : Heap) (tk i : Nat) (ys : List Value) (m' : Str → Option Value) (nw : Led) (hi : i ≤ n) (hyl : ys.length ≤ i) (st : St i h') (F : Fr h₀ L h' m) (ns : h'.Ns C m') (N : News h₀ L h' ((D, lst ys) :: nw)) (off : Apt wr C D nw) (hk : ∀ p ∈ keep, p ∈ nw) (j : J i ys nw) :
    CgInv h₀ L m s₂ St C D wr keep J n (n + 1 - i) { s₂ with heap := h', toks := tk }
section
variable {prog : Program} {w : World} {A : Around} {E : Value → Shared → Prop} {s : Shared} {h₀ : Heap} {L : Addr} {m : Str → Option Value} {env : Env}
theorem cg_block {elt iter target : PySem.Expr} {ifs : List PySem.Expr} {scope : Scope} {cl : List (Str × Addr)} {pos : Pos} {s₂ : Shared} {I : Addr} {fp wr : List Addr} {n : Nat} {P Md : Nat → Value → Heap → Prop} {St : Nat → Heap → Prop} {Af : Led → Prop} {news keep : Led}
    {Good : Nat → (Str → Option Value) → Prop} {J : Nat → List Value → Led → Prop} {RR : Value → Addr → Result → Shared → Prop}
    (W : Turns prog w A target I fp wr n P Md St Af) (hsz : n ≤ sizeLine) (hfk : ∀ b ∈ fp, b ∈ wr ∨ ∃ o, (b, o) ∈ keep)
    (hcell : ∀ y ∈ scope.names, y.2 ≠ .cell) (hkind : scope.kind = .function)
    (hasg : ∀ (C : Addr) i v m' (s : Shared) (Q : Unit → Shared → Prop) (E : Value → Shared → Prop), P i v s.heap → s.heap.Ns C m' → (∀ h' tk' m₂, h'.Ns C m₂ → Good i m₂ → (∀ b o, b ≠ C → s.heap.get? b = some o → h'.get? b = some o) → Q () { s with heap := h', toks := tk' }) →
      wpAny (model prog w) A (assign target (compEnvC scope cl C env) v) Q E s)
    (hst : St 0 s₂.heap) (hfp : ∀ b ∈ fp, b < s₂.heap.objs.size) (F : Fr h₀ L s₂.heap m) (N : News h₀ L s₂.heap news) (hLw : L ∉ wr) (hw₀ : ∀ b ∈ wr, h₀.get? b = none) (off : ∀ p ∈ news, p.1 ∉ wr) (hkeep : ∀ p ∈ keep, p ∈ news) (hJ : J 0 [] news)
    (turn : ∀ i ys nw, i < n → J i ys nw → AllO wr fun own => ∀ C oC D m₂ h tk (E' : Value → Shared → Prop), Good i m₂ → NsObj oC m₂ → Fr h₀ L h m → News h₀ L h (own ++ (C, oC) :: (D, lst ys) :: nw) → Apt wr C D nw →
      wpAny (model prog w) A (testsOf ifs (compEnvC scope cl C env)) (fun ok s' => if ok = true then wpAny (model prog w) A (eval elt (compEnvC scope cl C env)) (CgEnd h₀ L m { s₂ with heap := h, toks := tk } own wr C oC D (lst ys) keep (fun y nw' => J (i + 1) (ys ++ [y]) nw')) E' s'
        else CgEnd h₀ L m { s₂ with heap := h, toks := tk } own wr C oC D (lst ys) keep (fun _ nw' => J (i + 1) ys nw') .none s') E' { s₂ with heap := h, toks := tk })
    (hRR : ∀ D C h tk m' ys nw own, Af own → Fr h₀ L h m → News h₀ L h ((D, lst ys) :: (own ++ nw)) → (∀ p ∈ own ++ nw, p.1 ≠ D ∧ p.1 ≠ C) → (∀ p ∈ news, p.1 < D) → h.Ns C m' → h₀.get? C = none → h₀.get? D = none → C ≠ L → D ≠ L → C ≠ D → J n ys nw → RR (.ref D) C (.ok .next) { s₂ with heap := h, toks := tk }) :
    wpAny (model prog w) A (newList []) (fun acc s₃ => wpAny (model prog w) A (newFunctionEnv scope env.globals cl [] env.qual none .none (some env)) (fun cenv s₄ =>
      codeAny (model prog w) A (.compStart (.ListComp elt [⟨target, iter, ifs, 0⟩] scope pos) 0 (.ref I) acc { cenv with scope := relabel scope env }) (RR acc cenv.locals) s₄) E s₃) E s₂ := by
  refine wpAny_newObj_type (wpAny_newFunctionEnv hcell (by intro y hy; simp at hy) (fun h₁ hns₁ hsb₁ => ?_) hkind)
  dsimp only at hns₁ hsb₁ ⊢
  generalize hH2 : s₂.heap.push { cls := .type "list", dict := none, data := .seq ([] : List Value).toArray } = H2 at hns₁ hsb₁ ⊢
  have hC : H2.objs.size = s₂.heap.objs.size + 1 := by rw [← hH2, Heap.size_push]
  generalize hDe : s₂.heap.objs.size = D at *
  generalize hCe : H2.objs.size = C at *
  have hDC : D ≠ C := by rw [hC]; exact Nat.ne_of_lt (Nat.lt_succ_self _)
  have below : ∀ b : Addr, b < D → b ≠ C ∧ b ≠ D := fun b hb => ⟨by rw [hC]; exact Nat.ne_of_lt (Nat.lt_succ_of_lt hb), Nat.ne_of_lt hb⟩
  have hDf : D ∉ fp := fun hm => Nat.lt_irrefl _ (hfp _ hm)
  have hCf : C ∉ fp := fun hm => by have := hfp _ hm; rw [hC] at this; exact Nat.lt_irrefl _ (Nat.lt_of_succ_lt this)
  have ltD : ∀ b o, s₂.heap.get? b = some o → b < D := fun b o e => hDe ▸ Heap.lt_size e
  have old : ∀ b o, s₂.heap.get? b = some o → h₁.get? b = some o := fun b o e => hsb₁.extBut b o (below b (ltD b o e)).1 (Heap.get?_push_of_some _ (hH2 ▸ Heap.get?_push_of_some _ e))
  have hacc : h₁.get? D = some (lst []) := hsb₁.extBut _ _ hDC (Heap.get?_push_of_some _ (by rw [← hH2, ← hDe]; exact Heap.get?_push_size _ rfl))
  have hst₁ : St 0 h₁ := W.frame _ _ _ hst fun b _ o e => old b o e
  have fresh₀ : ∀ a : Addr, D ≤ a → h₀.get? a = none := fun a ha => by
    cases e : h₀.get? a with
    | none => rfl
    | some o' => exact absurd (ltD a o' (F.keep a o' e)) (Nat.not_lt.mpr ha)
  have hD₀ : h₀.get? D = none := fresh₀ _ (Nat.le_refl _)
  have hC₀ : h₀.get? C = none := fresh₀ _ (by rw [hC]; exact Nat.le_succ _)
  have hLlt : L < D := hDe ▸ F.ns.lt
  have hDL : D ≠ L := Ne.symm (below L hLlt).2
  have hCL : C ≠ L := Ne.symm (below L hLlt).1
  have hDw : D ∉ wr := fun h => hDf (W.sub _ h)
  have hCw : C ∉ wr := fun h => hCf (W.sub _ h)
  have off₀ : Apt wr C D news := fun p hp => ⟨off p hp, below _ (ltD _ _ (N p hp).1)⟩
  have wr₀ : ∀ b o, h₀.get? b = some o → b ∉ wr := fun b o e hb => by rw [hw₀ b hb] at e; cases e
  have loop : codeAny (model prog w) A (.compLoop (.ListComp elt [⟨target, iter, ifs, 0⟩] scope pos) 0 (.ref I) (.ref D) (compEnvC scope cl C env)) (RR (.ref D) C) { s₂ with heap := h₁, toks := s₂.toks + ([] : List (Str × Value)).length } := by
    refine cg_loop (CgInv h₀ L m s₂ St C D wr keep J n) ?_ (n + 1)
      (.mk h₁ _ 0 [] _ news (Nat.zero_le _) (Nat.le_refl _) hst₁ (F.keeps old) hns₁ (fun p hp => ?_) off₀ hkeep hJ)
    · intro k s' hG5
      induction hG5
      rename_i h' tk i ys m' nw hi hyl hst' F' hn' N' off' hk' J'
      have next : ∀ h₂ : Heap, (∀ b o, b ∉ wr → h'.get? b = some o → h₂.get? b = some o) → Fr h₀ L h₂ m ∧ News h₀ L h₂ ((D, lst ys) :: nw) := fun h₂ hk₂ =>
        ⟨⟨F'.ns.at' fun o e => hk₂ _ o hLw e, fun b o e => hk₂ b o (wr₀ b o e) (F'.keep b o e), F'.above⟩, fun p hp => ⟨hk₂ _ _ ((List.forall_mem_cons.mpr ⟨hDw, fun p hp => (off' p hp).1⟩ : ∀ p ∈ (D, lst ys) :: nw, p.1 ∉ wr) p hp) (N' p hp).1, (N' p hp).2⟩⟩
      by_cases hlt : i < n
      · refine W.item i _ _ _ hlt hst' fun v h₂ tk₂ hMd hk₂ => ?_
        refine W.go i v _ _ _ hMd fun h₃ hP hst₃ hk₃ => ?_
        have z₃ := next h₃ fun b o hb e => hk₃ b o hb (hk₂ b o hb e)
        refine hasg C i v m' _ _ _ hP (hn'.at' fun o e => hk₃ _ o hCw (hk₂ _ o hCw e)) fun h₄ tk₄ m₂ hn₄ hG hk₄ => ?_
        have hst₄ : St (i + 1) h₄ := W.frame _ _ _ hst₃ fun b hb o e => hk₄ b o (fun q => hCf (q ▸ hb)) e
        obtain ⟨oC, zC⟩ := ns_obj hn₄
        obtain ⟨own, zo⟩ := AllO.at (turn i ys nw hlt J') (W.there _ _ hst₄)
        have hown := zo.2.1
        have F₄ : Fr h₀ L h₄ m := ⟨z₃.1.ns.at' fun o e => hk₄ _ o (Ne.symm hCL) e, fun b o e => hk₄ b o (fun q => by rw [q, hC₀] at e; cases e) (z₃.1.keep b o e), z₃.1.above⟩
        have N₄ : News h₀ L h₄ (own ++ (C, oC) :: (D, lst ys) :: nw) := List.forall_mem_append.mpr ⟨fun p hp => ⟨(hown p hp).1, fun q => hLw (q ▸ (hown p hp).2), hw₀ _ (hown p hp).2⟩, List.forall_mem_cons.mpr ⟨⟨zC.1, hCL, hC₀⟩, fun p hp =>
          ⟨hk₄ _ _ ((List.forall_mem_cons.mpr ⟨hDC, fun p hp => (off' p hp).2.1⟩ : ∀ p ∈ (D, lst ys) :: nw, p.1 ≠ C) p hp) (z₃.2 p hp).1, (z₃.2 p hp).2⟩⟩⟩
        have after : ∀ (h₅ : Heap) (nw₅ : Led), News h₀ L h₅ (own ++ (C, oC) :: (D, lst ys) :: nw₅) → (∀ p ∈ keep, p ∈ nw₅) → St (i + 1) h₅ := fun h₅ nw₅ N₅ hk₅ => by
          refine W.frame _ _ _ hst₄ fun b hb o e => ?_
          rcases hfk b hb with hb | ⟨o', hb⟩
          · obtain ⟨o', ho'⟩ := zo.2.2 b hb
            have e1 := (hown _ ho').1
            rw [show ((b, o') : Addr × Obj).1 = b from rfl, e] at e1
            cases e1
            exact (N₅ _ (List.mem_append_left _ ho')).1
          · have e1 := (N₄ _ (List.mem_append_right _ (.tail _ (.tail _ (hk' _ hb))))).1
            rw [show ((b, o') : Addr × Obj).1 = b from rfl, e] at e1
            cases e1
            exact (N₅ _ (List.mem_append_right _ (.tail _ (.tail _ (hk₅ _ hb))))).1
        refine wpAny_mono (zo.1 C oC D m₂ h₄ tk₄ _ hG zC.2 F₄ N₄ off') (fun okb s₅ h₅ => ?_) fun _ _ e => e
        cases okb with
        | false =>
          simp only [Bool.false_eq_true, if_false] at h₅ ⊢
          induction h₅
          rename_i h₅ tk₅ nw₅ F₅ N₅ off₅ hk₅ J₅
          exact ⟨n + 1 - (i + 1), meas_succ hlt, .mk h₅ tk₅ (i + 1) ys _ nw₅ hlt (Nat.le_succ_of_le hyl) (after h₅ nw₅ N₅ hk₅) F₅ (zC.2.ns (N₅ _ (List.mem_append_right _ (.head _))).1) (fun p hp => N₅ p (List.mem_append_right _ (.tail _ hp))) off₅ hk₅ J₅⟩
        | true =>
          simp only [if_true] at h₅ ⊢
          refine wpAny_mono h₅ (fun y s₆ h₆ => ?_) fun _ _ e => e
          induction h₆
          rename_i h₅ tk₅ nw₅ F₅ N₅ off₅ hk₅ J₅
          refine append_at (hsz := by show ys.toArray.size ≤ sizeLine; rw [List.size_toArray]; exact Nat.le_trans (Nat.le_trans hyl hi) hsz) (N₅ (D, lst ys) (List.mem_append_right _ (.tail _ (.head _)))).1 fun h₆ hs₆ hD₆ => ?_
          refine ⟨n + 1 - (i + 1), meas_succ hlt, .mk h₆ tk₅ (i + 1) (ys ++ [y]) _ nw₅ hlt (by rw [List.length_append, List.length_singleton]; exact Nat.succ_le_succ hyl) (W.frame _ _ _ (after h₅ nw₅ N₅ hk₅) fun b hb o e => hs₆.extBut b o (fun q => hDf (q ▸ hb)) e) (F₅.change hs₆ hDL hD₀)
            ((zC.2.ns (N₅ _ (List.mem_append_right _ (.head _))).1).sameBut hs₆ (Ne.symm hDC)) (fun p hp => ?_) off₅ hk₅ J₅⟩
          exact (List.forall_mem_cons.mpr ⟨⟨hD₆.trans (congrArg some (lst_snoc ys y)), hDL, hD₀⟩, fun p hp => ⟨hs₆.extBut _ _ (off₅ p hp).2.2 (N₅ p (List.mem_append_right _ (.tail _ (.tail _ hp)))).1, (N₅ p (List.mem_append_right _ (.tail _ (.tail _ hp)))).2⟩⟩ : News h₀ L h₆ ((D, lst (ys ++ [y])) :: nw₅)) p hp
      · obtain rfl : i = n := Nat.le_antisymm hi (Nat.not_lt.mp hlt)
        refine W.done _ _ _ hst' fun h₂ tk₂ own haf hown hk₂ => ?_
        have z₂ := next h₂ hk₂
        refine hRR D C h₂ tk₂ _ ys nw own haf z₂.1 (fun p hp => ?_) (fun p hp => ?_) (fun p hp => ltD _ _ (N p hp).1) (hn'.at' fun o e => hk₂ _ o hCw e) hC₀ hD₀ hCL hDL (Ne.symm hDC) J'
        · exact (List.forall_mem_cons.mpr ⟨z₂.2 _ (.head _), List.forall_mem_append.mpr ⟨fun p hp => ⟨(hown p hp).1, fun q => hLw (q ▸ (hown p hp).2), hw₀ _ (hown p hp).2⟩, fun p hp => z₂.2 _ (.tail _ hp)⟩⟩ : News h₀ L h₂ ((D, lst ys) :: (own ++ nw))) p hp
        · exact (List.forall_mem_append.mpr ⟨fun p hp => ⟨fun q => hDw (q ▸ (hown p hp).2), fun q => hCw (q ▸ (hown p hp).2)⟩, fun p hp => ⟨(off' p hp).2.2, (off' p hp).2.1⟩⟩ : ∀ p ∈ own ++ nw, p.1 ≠ D ∧ p.1 ≠ C) p hp
    · exact (List.forall_mem_cons.mpr ⟨⟨hacc, hDL, hD₀⟩, fun p hp => ⟨old _ _ (N p hp).1, (N p hp).2⟩⟩ : News h₀ L h₁ ((D, lst []) :: news)) p hp
  exact codeAny_compStart_list loop (W.self _ _ _ hst₁ loop)
end

end

-- text: CompH
section
open PyProof.Rows.LCg (NsObj ns_obj lst lst_snoc)
inductive CgSrc (prog : Program) (w : World) (A : Around) (h₀ : Heap) (L : Addr) (m : Str → Option Value) (env : Env) (target elt : PySem.Expr) (ifs : List PySem.Expr) (scope : Scope) (cl : List (Str × Addr)) (Fin : Shared → Addr → List Value → Led → Prop) : Value → Shared → Prop
  | mk (s₂ : Shared) (I : Addr) (fp wr : List Addr) (n : Nat) (P Md : Nat → Value → Heap → Prop) (St : Nat → Heap → Prop) (Af : Led → Prop) (news keep : Led) (Good : Nat → (Str → Option Value) → Prop) (J : Nat → List Value → Led → Prop)
    (W : Turns prog w A target I fp wr n P Md St Af) (hsz : n ≤ sizeLine) (hfk : ∀ b ∈ fp, b ∈ wr ∨ ∃ o, (b, o) ∈ keep)
    (hasg : ∀ (C : Addr) i v m' (s : Shared) (Q : Unit → Shared → Prop) (E : Value → Shared → Prop), P i v s.heap → s.heap.Ns C m' → (∀ h' tk' m₂, h'.Ns C m₂ → Good i m₂ → (∀ b o, b ≠ C → s.heap.get? b = some o → h'.get? b = some o) → Q () { s with heap := h', toks := tk' }) →
      wpAny (model prog w) A (assign target (compEnvC scope cl C env) v) Q E s)
    (hst : St 0 s₂.heap) (hfp : ∀ b ∈ fp, b < s₂.heap.objs.size) (F : Fr h₀ L s₂.heap m) (N : News h₀ L s₂.heap news) (hLw : L ∉ wr) (hw₀ : ∀ b ∈ wr, h₀.get? b = none) (off : ∀ p ∈ news, p.1 ∉ wr) (hkeep : ∀ p ∈ keep, p ∈ news) (hJ : J 0 [] news)
    (turn : ∀ i ys nw, i < n → J i ys nw → AllO wr fun own => ∀ C oC D m₂ h tk (E' : Value → Shared → Prop), Good i m₂ → NsObj oC m₂ → Fr h₀ L h m → News h₀ L h (own ++ (C, oC) :: (D, lst ys) :: nw) → Apt wr C D nw →
      wpAny (model prog w) A (testsOf ifs (compEnvC scope cl C env)) (fun ok s' => if ok = true then wpAny (model prog w) A (eval elt (compEnvC scope cl C env)) (CgEnd h₀ L m { s₂ with heap := h, toks := tk } own wr C oC D (lst ys) keep (fun y nw' => J (i + 1) (ys ++ [y]) nw')) E' s'
        else CgEnd h₀ L m { s₂ with heap := h, toks := tk } own wr C oC D (lst ys) keep (fun _ nw' => J (i + 1) ys nw') .none s') E' { s₂ with heap := h, toks := tk })
    (fin : ∀ D ys nw own, Af own → J n ys nw → (∀ p ∈ own ++ nw, p.1 ≠ D) → (∀ p ∈ news, p.1 < D) → Fin s₂ D ys (own ++ nw)) : CgSrc prog w A h₀ L m env target elt ifs scope cl Fin (.ref I) s₂
theorem off_cons {a C : Addr} {o : Obj} {l : Led} (h : a ≠ C) (k : ∀ p ∈ l, p.1 ≠ C) : ∀ p ∈ (a, o) :: l, p.1 ≠ C := List.forall_mem_cons.mpr ⟨h, k⟩
section
variable {prog : Program} {w : World} {A : Around} {E : Value → Shared → Prop} {s : Shared} {h₀ : Heap} {L : Addr} {m : Str → Option Value} {env : Env}
theorem cg_eval {elt iter target : PySem.Expr} {ifs : List PySem.Expr} {scope : Scope} {cl : List (Str × Addr)} {pos : Pos} {Q : Value → Shared → Prop} (F₀ : Fr h₀ L s.heap m)
    (hclos : closureFor scope env = pure cl) (hcell : ∀ y ∈ scope.names, y.2 ≠ .cell) (hkind : scope.kind = .function)
    (hnames : ∀ y ∈ scope.names, y.2 = .local → scope.names.lookup y.1 = some .local)
    (h : wpAny (model prog w) A (eval iter env) (fun xv s₁ => wpAny (model prog w) A (pyIter xv) (CgSrc prog w A h₀ L m env target elt ifs scope cl (fun s₂ D ys nw => ∀ h tk, Fr h₀ L h m → News h₀ L h ((D, lst ys) :: nw) → Q (.ref D) { s₂ with heap := h, toks := tk })) E s₁) E s)
    (hs : ∀ x, foldedSetIterable iter env x = pure x := by intro _; rfl) :
    wpAny (model prog w) A (eval (.ListComp elt [⟨target, iter, ifs, 0⟩] scope pos) env) Q E s := by
  rw [eval_ListComp]
  refine wpAny_comprehension_free (use := none) rfl hs hclos hkind hnames (wpAny_mono h (fun xv s₁ h₁ => wpAny_mono h₁ (fun it s₂ h₂ => ?_) fun _ _ e => e) fun _ _ e => e)
  induction h₂
  rename_i s₂ I fp wr n P Md St Af news keep Good J W hsz hfk hasg hst hfp F N hLw hw₀ off hkeep hJ turn fin
  refine cg_block W hsz hfk hcell hkind hasg hst hfp F N hLw hw₀ off hkeep hJ turn ?_
  intro D C h tk m' ys nw own haf F' N' hoff hlt hn hC₀ hD₀ hCL hDL hCD J'
  refine ⟨m', hn, fun h'' hs'' => fin D ys nw own haf J' (fun p hp => (hoff p hp).1) hlt h'' tk (F'.change hs'' hCL hC₀) fun p hp => ?_⟩
  exact ⟨hs''.extBut _ _ (off_cons (Ne.symm hCD) (fun p hp => (hoff p hp).2) p hp) (N' p hp).1, (N' p hp).2⟩
theorem cg_assign {elt iter target : PySem.Expr} {ifs : List PySem.Expr} {y : Str} {py : Pos} {scope : Scope} {cl : List (Str × Addr)} {pos spos : Pos} {Q : Flow → Shared → Prop} (F₀ : Fr h₀ env.locals s.heap m)
    (hsw : swapsWith (.ListComp elt [⟨target, iter, ifs, 0⟩] scope pos) (some (.Name y py)) spos.line env = pure true)
    (hclos : closureFor scope env = pure cl) (hcell : ∀ z ∈ scope.names, z.2 ≠ .cell) (hkind : scope.kind = .function)
    (hnames : ∀ z ∈ scope.names, z.2 = .local → scope.names.lookup z.1 = some .local)
    (hy : env.kindOf y = some .local) (hp : (env.scope.kind == .class || (env.scope.kind == .module && env.locals != env.globals)) = false)
    (h : wpAny (model prog w) A (eval iter env) (fun xv s₁ => wpAny (model prog w) A (pyIter xv) (CgSrc prog w A h₀ env.locals m env target elt ifs scope cl (fun s₂ D ys nw => ∀ h tk, Fr h₀ env.locals h (fun z => if z = y then some (.ref D) else m z) → News h₀ env.locals h ((D, lst ys) :: nw) → Q .next { s₂ with heap := h, toks := tk })) E s₁) E s)
    (hs : ∀ x, foldedSetIterable iter env x = pure x := by intro _; rfl) :
    wpAny (model prog w) A (exec (.Assign [.Name y py] (.ListComp elt [⟨target, iter, ifs, 0⟩] scope pos) spos) env) Q E s := by
  rw [exec_Assign_Name_used _ _ _ _ hsw]
  refine wpAny_bind (wpAny_standAt (wpAny_bind ?_))
  show wpAny _ A (do let _ ← comprehension (.ListComp elt [⟨target, iter, ifs, 0⟩] scope pos) scope env _ (newList []) false (eval iter env) (some (assign (.Name y py) env))) _ _ s
  refine wpAny_bind (wpAny_mono (wpAny_comprehension_free (use := some (assign (.Name y py) env)) (Q := fun _ s' => Q .next s') rfl hs hclos hkind hnames
    (wpAny_mono h (fun xv s₁ h₁ => wpAny_mono h₁ (fun it s₂ h₂ => ?_) fun _ _ e => e) fun _ _ e => e)) (fun _ s' hq => wpAny_pure (wpAny_pure hq)) fun _ _ e => e)
  induction h₂
  rename_i s₂ I fp wr n P Md St Af news keep Good J W hsz hfk hasg hst hfp F N hLw hw₀ off hkeep hJ turn fin
  refine cg_block W hsz hfk hcell hkind hasg hst hfp F N hLw hw₀ off hkeep hJ turn ?_
  intro D C h' tk m' ys nw own haf F' N' hoff hlt hn hC₀ hD₀ hCL hDL hCD J'
  show wpAny _ A (assign (.Name y py) env (.ref D)) _ _ _
  refine wpAny_assign_Name (wpAny_storeName_local hy F'.ns (fun h₂ hn₂ hs₂ => ?_) hp)
  have hL₀ : h₀.get? env.locals = none := Heap.get?_none_of_le F'.above
  have F₂ : Fr h₀ env.locals h₂ (fun z => if z = y then some (.ref D) else m z) := ⟨hn₂, fun b o e => hs₂.extBut b o (fun q => by rw [q, hL₀] at e; cases e) (F'.keep b o e), F'.above⟩
  refine ⟨m', hn.sameBut hs₂ hCL, fun h'' hs'' => fin D ys nw own haf J' (fun p hp => (hoff p hp).1) hlt h'' _ (F₂.change hs'' hCL hC₀) fun p hp => ?_⟩
  have z : h₂.get? p.1 = some p.2 := hs₂.extBut _ _ (N' p hp).2.1 (N' p hp).1
  exact ⟨hs''.extBut _ _ (off_cons (Ne.symm hCD) (fun p hp => (hoff p hp).2) p hp) z, (N' p hp).2⟩
theorem asg_name {x : Str} {px : Pos} {scope : Scope} {cl : List (Str × Addr)} {Pv : Nat → Value → Prop} (hx : scope.names.lookup x = some .local) (hkind : scope.kind = .function) :
    ∀ (C : Addr) i v m' (s : Shared) (Q : Unit → Shared → Prop) (E : Value → Shared → Prop), Pv i v → s.heap.Ns C m' → (∀ h' tk' m₂, h'.Ns C m₂ → (∃ v, Pv i v ∧ m₂ x = some v) → (∀ b o, b ≠ C → s.heap.get? b = some o → h'.get? b = some o) → Q () { s with heap := h', toks := tk' }) →
      wpAny (model prog w) A (assign (.Name x px) (compEnvC scope cl C env) v) Q E s := by
  intro C i v m' s Q E hP hn k
  exact wpAny_assign_Name (wpAny_storeName_local (lookup_relabel_local hx) hn (fun h₃ hn₃ hs₃ => k h₃ _ _ hn₃ ⟨v, hP, by simp⟩ fun b o hb e => hs₃.extBut b o hb e) (by simp [compEnvC, relabel, hkind]))
theorem asg_pair {x y : Str} {px py tp : Pos} {kk : Nat} {scope : Scope} {cl : List (Str × Addr)} {Pt : Nat → Array Value → Prop} (hh : A.handled = none) (h2 : ∀ i vals, Pt i vals → ∃ a b, vals = #[a, b]) (hx : scope.names.lookup x = some .local) (hy : scope.names.lookup y = some .local) (hxy : x ≠ y) (hkind : scope.kind = .function) :
    ∀ (C : Addr) i v m' (s : Shared) (Q : Unit → Shared → Prop) (E : Value → Shared → Prop), (∃ T vals, v = .ref T ∧ Pt i vals ∧ s.heap.IsTuple T vals) → s.heap.Ns C m' → (∀ h' tk' m₂, h'.Ns C m₂ → (∃ a b, Pt i #[a, b] ∧ m₂ x = some a ∧ m₂ y = some b) → (∀ b o, b ≠ C → s.heap.get? b = some o → h'.get? b = some o) → Q () { s with heap := h', toks := tk' }) →
      wpAny (model prog w) A (assign (.Tuple [.Name x px, .Name y py] kk tp) (compEnvC scope cl C env) v) Q E s := by
  intro C i v m' s Q E hG6 hn k
  refine gen_P fun R9 hR9 => ?_
  obtain ⟨T, vals, rfl, hP, hT⟩ := hG6
  refine of_P hR9 ?_
  clear hR9 R9
  obtain ⟨a, b, rfl⟩ := h2 i vals hP
  refine assign_Tuple_tuple hh hT rfl rfl fun h₅ he => ?_
  have he' : ∀ b o, s.heap.get? b = some o → h₅.get? b = some o := fun b o e => he b o (Nat.ne_of_lt (Heap.lt_size e)) e
  refine assignInOrder_cons (wpAny_assign_Name (wpAny_storeName_local (lookup_relabel_local hx) (hn.at' fun o e => he' _ o e) (fun h₆ hn₆ hs₆ => ?_) (by simp [compEnvC, relabel, hkind])))
  refine assignInOrder_cons (wpAny_assign_Name (wpAny_storeName_local (lookup_relabel_local hy) hn₆ (fun h₃ hn₃ hs₃ => ?_) (by simp [compEnvC, relabel, hkind])))
  exact assignInOrder_nil (k h₃ _ _ hn₃ ⟨a, b, hP, by simp [hxy], by simp⟩ fun b o hb e => hs₃.extBut b o hb (hs₆.extBut b o hb (he' b o e)))
theorem asg_trip {x y z : Str} {px py pz tp : Pos} {kk : Nat} {scope : Scope} {cl : List (Str × Addr)} {Pt : Nat → Array Value → Prop} (hh : A.handled = none) (h3 : ∀ i vals, Pt i vals → ∃ a b c, vals = #[a, b, c]) (hx : scope.names.lookup x = some .local) (hy : scope.names.lookup y = some .local) (hz : scope.names.lookup z = some .local) (hxy : x ≠ y) (hxz : x ≠ z) (hyz : y ≠ z) (hkind : scope.kind = .function) :
    ∀ (C : Addr) i v m' (s : Shared) (Q : Unit → Shared → Prop) (E : Value → Shared → Prop), (∃ T vals, v = .ref T ∧ Pt i vals ∧ s.heap.IsTuple T vals) → s.heap.Ns C m' → (∀ h' tk' m₂, h'.Ns C m₂ → (∃ a b c, Pt i #[a, b, c] ∧ m₂ x = some a ∧ m₂ y = some b ∧ m₂ z = some c) → (∀ b o, b ≠ C → s.heap.get? b = some o → h'.get? b = some o) → Q () { s with heap := h', toks := tk' }) →
      wpAny (model prog w) A (assign (.Tuple [.Name x px, .Name y py, .Name z pz] kk tp) (compEnvC scope cl C env) v) Q E s := by
  intro C i v m' s Q E hG7 hn k
  refine gen_P fun R9 hR9 => ?_
  obtain ⟨T, vals, rfl, hP, hT⟩ := hG7
  refine of_P hR9 ?_
  clear hR9 R9
  obtain ⟨a, b, c, rfl⟩ := h3 i vals hP
  refine assign_Tuple_tuple hh hT rfl rfl fun h₅ he => ?_
  have he' : ∀ b o, s.heap.get? b = some o → h₅.get? b = some o := fun b o e => he b o (Nat.ne_of_lt (Heap.lt_size e)) e
  refine assignInOrder_cons (wpAny_assign_Name (wpAny_storeName_local (lookup_relabel_local hx) (hn.at' fun o e => he' _ o e) (fun h₆ hn₆ hs₆ => ?_) (by simp [compEnvC, relabel, hkind])))
  refine assignInOrder_cons (wpAny_assign_Name (wpAny_storeName_local (lookup_relabel_local hy) hn₆ (fun h₇ hn₇ hs₇ => ?_) (by simp [compEnvC, relabel, hkind])))
  refine assignInOrder_cons (wpAny_assign_Name (wpAny_storeName_local (lookup_relabel_local hz) hn₇ (fun h₃ hn₃ hs₃ => ?_) (by simp [compEnvC, relabel, hkind])))
  exact assignInOrder_nil (k h₃ _ _ hn₃ ⟨a, b, c, hP, by simp [hxy, hxz], by simp [hyz], by simp⟩ fun b o hb e => hs₃.extBut b o hb (hs₇.extBut b o hb (hs₆.extBut b o hb (he' b o e))))
end

end

-- text: CompS
section
open PyProof.Rows.LCg (NsObj ns_obj lst lst_snoc)
theorem pair_obj {h : Heap} {T : Addr} (e : ∃ a b, IsPair h T a b) : ∃ o, h.get? T = some o := let ⟨_, _, e⟩ := e; ⟨_, e⟩
theorem pair_up {h h' : Heap} {T : Addr} (k : ∀ o, h.get? T = some o → h'.get? T = some o) (e : ∃ a b, IsPair h T a b) : ∃ a b, IsPair h' T a b := let ⟨a, b, e⟩ := e; ⟨a, b, k _ e⟩
theorem iter_obj {h : Heap} {I l : Addr} {i : Nat} (e : h.IsListIter I l i) : ∃ o, h.get? I = some o := let ⟨o, e, _⟩ := e; ⟨o, e⟩
theorem getD_arr {xs : List Value} {i : Nat} {v : Value} (h : xs.toArray[i]? = some v) : xs.getD i .none = v := by
  have e : xs.toArray[i]? = xs[i]? := by simp
  rw [e] at h
  simp [h]
theorem pair_inj {a b c d : Value} (h : (#[a, b] : Array Value) = #[c, d]) : a = c ∧ b = d := by simpa using h
theorem ltk {n i k : Nat} (h : Nat.ble (i + 1) k = true) : n + i < n + k := Nat.add_lt_add_left (Nat.le_of_ble_eq_true h) n
theorem no_own {α : Type} {own nw : List α} {P : List α → Prop} (h : own = []) (k : P nw) : P (own ++ nw) := by rw [h]; exact k
section
variable {prog : Program} {w : World} {A : Around} {E : Value → Shared → Prop} {s : Shared} {h₀ : Heap} {L : Addr} {m : Str → Option Value} {env : Env} {elt : PySem.Expr} {ifs : List PySem.Expr} {scope : Scope} {cl : List (Str × Addr)} {Fin : Shared → Addr → List Value → Led → Prop} {news : Led}
theorem cg_list {x : Str} {px : Pos} {ax : Addr} {vs : List Value} {k : Nat} (hh : A.handled = none) (F : Fr h₀ L s.heap m) (N : News h₀ L s.heap news) (hm : (ax, listOf vs.toArray k) ∈ news) (hsz : vs.length ≤ sizeLine) (hx : scope.names.lookup x = some .local) (hkind : scope.kind = .function)
    (J : Nat → List Value → Led → Prop) (hJ : J 0 [] news)
    (turn : ∀ i ys nw, i < vs.length → J i ys nw → ∀ I oI C oC D m₂ h tk (E' : Value → Shared → Prop), m₂ x = some (vs.getD i .none) → NsObj oC m₂ → Fr h₀ L h m → News h₀ L h ((I, oI) :: (C, oC) :: (D, lst ys) :: nw) → Apt [I] C D nw →
      wpAny (model prog w) A (testsOf ifs (compEnvC scope cl C env)) (fun ok s' => if ok = true then wpAny (model prog w) A (eval elt (compEnvC scope cl C env)) (CgEnd h₀ L m { s with heap := h, toks := tk } [(I, oI)] [I] C oC D (lst ys) [(ax, listOf vs.toArray k)] (fun y nw' => J (i + 1) (ys ++ [y]) nw')) E' s'
        else CgEnd h₀ L m { s with heap := h, toks := tk } [(I, oI)] [I] C oC D (lst ys) [(ax, listOf vs.toArray k)] (fun _ nw' => J (i + 1) ys nw') .none s') E' { s with heap := h, toks := tk })
    (fin : ∀ D ys nw g, J vs.length ys nw → (∀ p ∈ nw, p.1 ≠ D) → (∀ p ∈ news, p.1 < D) → Fin { s with heap := g } D ys nw) :
    wpAny (model prog w) A (pyIter (.ref ax)) (CgSrc prog w A h₀ L m env (.Name x px) elt ifs scope cl Fin) E s := by
  have hl := PySem.IsL.isList (n := k) (N _ hm).1
  have hlt : ax < s.heap.objs.size := Heap.lt_size (N _ hm).1
  refine wpAny_pyIter_list hl ?_
  have up : ∀ b o, s.heap.get? b = some o → (s.heap.push { cls := .type "list_iterator", data := .fields #[.ref ax, .int 0 0] }).get? b = some o := fun b o e => Heap.get?_push_of_some _ e
  refine .mk _ s.heap.objs.size _ _ _ _ _ _ _ news [(ax, listOf vs.toArray k)] _ J (Turns.ofW (Walks.list hh s.heap.objs.size ax (Nat.ne_of_lt hlt) vs.toArray) ?_) (by simpa using hsz) ?_ (asg_name hx hkind) ⟨⟨_, Heap.get?_push_size _ rfl, rfl, rfl⟩, hl.push _⟩ ?_ (F.keeps up) (N.grown up) ?_ ?_ ?_ ?_ hJ ?_ ?_
  · exact fun i h st => all1 (iter_obj st.1)
  · exact all2 (.inl m1) (.inr ⟨_, m1⟩)
  · show ∀ b ∈ _, b < (s.heap.push _).objs.size
    rw [Heap.size_push]
    exact all2 (Nat.lt_succ_self _) (Nat.lt_succ_of_lt hlt)
  · exact fun hL => Nat.ne_of_lt F.ns.lt (List.mem_singleton.mp hL)
  · exact all1 (next_is_new F)
  · exact fun p hp hI => Nat.ne_of_lt (Heap.lt_size (N p hp).1) (List.mem_singleton.mp hI)
  · exact all1 hm
  · intro i ys nw hi hJ' oI C oC D m₂ h tk E' hG hC F' N' off'
    exact turn i ys nw (by simpa using hi) hJ' s.heap.objs.size oI C oC D m₂ h tk E' (Exists.elim hG fun v e => e.2.trans (congrArg some (getD_arr e.1).symm)) hC F' N' off'
  · intro D ys nw own haf hJ' hoff hlt
    have hJ'' : J vs.length ys nw := by simpa using hJ'
    rw [show own = [] from haf] at hoff ⊢
    exact fin D ys nw _ hJ'' hoff hlt
theorem cg_enum {x y : Str} {px py tp : Pos} {kk : Nat} {l : Addr} {vs : List Value} {k : Nat} (hh : A.handled = none) (F : Fr h₀ L s.heap m) (N : News h₀ L s.heap news) (hm : (l, listOf vs.toArray k) ∈ news) (hsz : vs.length ≤ sizeLine) (hx : scope.names.lookup x = some .local) (hy : scope.names.lookup y = some .local) (hxy : x ≠ y) (hkind : scope.kind = .function)
    (J : Nat → List Value → Led → Prop) (hJ : J 0 [] news)
    (turn : ∀ i ys nw, i < vs.length → J i ys nw → ∀ I1 o1 I2 o2 C oC D m₂ h tk (E' : Value → Shared → Prop), (∃ t, m₂ x = some (.int (i : Nat) t)) → m₂ y = some (vs.getD i .none) → NsObj oC m₂ → Fr h₀ L h m → News h₀ L h ((I1, o1) :: (I2, o2) :: (C, oC) :: (D, lst ys) :: nw) → Apt [I1, I2] C D nw →
      wpAny (model prog w) A (testsOf ifs (compEnvC scope cl C env)) (fun ok s' => if ok = true then wpAny (model prog w) A (eval elt (compEnvC scope cl C env)) (CgEnd h₀ L m { s with heap := h, toks := tk } [(I1, o1), (I2, o2)] [I1, I2] C oC D (lst ys) [(l, listOf vs.toArray k)] (fun y nw' => J (i + 1) (ys ++ [y]) nw')) E' s'
        else CgEnd h₀ L m { s with heap := h, toks := tk } [(I1, o1), (I2, o2)] [I1, I2] C oC D (lst ys) [(l, listOf vs.toArray k)] (fun _ nw' => J (i + 1) ys nw') .none s') E' { s with heap := h, toks := tk })
    (fin : ∀ D ys nw g, J vs.length ys nw → (∀ p ∈ nw, p.1 ≠ D) → (∀ p ∈ news, p.1 < D) → Fin { s with heap := g } D ys nw) :
    wpAny (model prog w) A (call (.type "enumerate") [.ref l]) (fun xv s₁ => wpAny (model prog w) A (pyIter xv) (CgSrc prog w A h₀ L m env (.Tuple [.Name x px, .Name y py] kk tp) elt ifs scope cl Fin) E s₁) E s := by
  have hl := PySem.IsL.isList (n := k) (N _ hm).1
  have hlt : l < s.heap.objs.size := Heap.lt_size (N _ hm).1
  have lo2 : ∀ b ∈ [s.heap.objs.size + 1, s.heap.objs.size], ¬ b < s.heap.objs.size := all2 (Nat.not_lt.mpr (Nat.le_add_right _ _)) (Nat.lt_irrefl _)
  refine call_enumerate_list hl fun h' hE hI hsz' hk => wpAny_pyIter_enum hE ?_
  refine .mk _ (s.heap.objs.size + 1) _ _ _ _ _ _ _ news [(l, listOf vs.toArray k)] _ J (Turns.ofU (WalksT.enumerate hh (s.heap.objs.size + 1) s.heap.objs.size l (Nat.succ_ne_self _) (ktu_ne 1 hlt) (Nat.ne_of_lt hlt) vs.toArray).toU ?_) (by simpa using hsz) ?_ (asg_pair hh ?_ hx hy hxy hkind) ⟨⟨.none, hE⟩, hI, hl.at fun o e => hk l o e⟩ ?_ (F.keeps hk) (N.grown hk) ?_ ?_ ?_ ?_ hJ ?_ ?_
  · exact fun i h st => all2 (Exists.elim st.1 fun _ e => ⟨_, e⟩) (iter_obj st.2.1)
  · exact all3 (.inl m1) (.inl m2) (.inr ⟨_, m1⟩)
  · exact fun i vals h => Exists.elim h fun t h => Exists.elim h fun v h => ⟨_, _, h.2⟩
  · rw [hsz']
    exact all3 (Nat.lt_succ_self _) (Nat.lt_succ_of_lt (Nat.lt_succ_self _)) (Nat.lt_succ_of_lt (Nat.lt_succ_of_lt hlt))
  · exact fun hL => lo2 L hL F.ns.lt
  · exact fun b hb => ktu_new F (Nat.not_lt.mp (lo2 b hb))
  · exact fun p hp hI' => lo2 p.1 hI' (Heap.lt_size (N p hp).1)
  · exact all1 hm
  · intro i ys nw hi hJ' o1 o2 C oC D m₂ h tk E' hG hC F' N' off'
    have hg : (∃ t, m₂ x = some (.int (i : Nat) t)) ∧ m₂ y = some (vs.getD i .none) := by
      obtain ⟨a, b, ⟨t, v, hv, e⟩, hx', hy'⟩ := hG
      have e := pair_inj e
      exact ⟨⟨t, hx'.trans (congrArg some e.1)⟩, hy'.trans (congrArg some (e.2.trans (getD_arr hv).symm))⟩
    exact turn i ys nw (by simpa using hi) hJ' _ o1 _ o2 C oC D m₂ h tk E' hg.1 hg.2 hC F' N' off'
  · intro D ys nw own haf hJ' hoff hlt
    have hJ'' : J vs.length ys nw := by simpa using hJ'
    rw [show own = [] from haf] at hoff ⊢
    exact fin D ys nw _ hJ'' hoff hlt
theorem cg_zip {x y : Str} {px py tp : Pos} {kk : Nat} {l1 l2 : Addr} {xs ys : List Value} {k1 k2 : Nat} (hh : A.handled = none) (F : Fr h₀ L s.heap m) (N : News h₀ L s.heap news) (hm1 : (l1, listOf xs.toArray k1) ∈ news) (hm2 : (l2, listOf ys.toArray k2) ∈ news) (hlen : xs.length = ys.length) (hsz : xs.length ≤ sizeLine) (hx : scope.names.lookup x = some .local) (hy : scope.names.lookup y = some .local) (hxy : x ≠ y) (hkind : scope.kind = .function)
    (J : Nat → List Value → Led → Prop) (hJ : J 0 [] news)
    (turn : ∀ i zs nw, i < xs.length → J i zs nw → ∀ I1 o1 I2 o2 I3 o3 I4 o4 I5 o5 C oC D m₂ h tk (E' : Value → Shared → Prop), m₂ x = some (xs.getD i .none) → m₂ y = some (ys.getD i .none) → NsObj oC m₂ → Fr h₀ L h m → News h₀ L h ((I1, o1) :: (I2, o2) :: (I3, o3) :: (I4, o4) :: (I5, o5) :: (C, oC) :: (D, lst zs) :: nw) → Apt [I1, I2, I3, I4, I5] C D nw →
      wpAny (model prog w) A (testsOf ifs (compEnvC scope cl C env)) (fun ok s' => if ok = true then wpAny (model prog w) A (eval elt (compEnvC scope cl C env)) (CgEnd h₀ L m { s with heap := h, toks := tk } [(I1, o1), (I2, o2), (I3, o3), (I4, o4), (I5, o5)] [I1, I2, I3, I4, I5] C oC D (lst zs) [(l1, listOf xs.toArray k1), (l2, listOf ys.toArray k2)] (fun y nw' => J (i + 1) (zs ++ [y]) nw')) E' s'
        else CgEnd h₀ L m { s with heap := h, toks := tk } [(I1, o1), (I2, o2), (I3, o3), (I4, o4), (I5, o5)] [I1, I2, I3, I4, I5] C oC D (lst zs) [(l1, listOf xs.toArray k1), (l2, listOf ys.toArray k2)] (fun _ nw' => J (i + 1) zs nw') .none s') E' { s with heap := h, toks := tk })
    (fin : ∀ D zs nw g, J xs.length zs nw → (∀ p ∈ nw, p.1 ≠ D) → (∀ p ∈ news, p.1 < D) → Fin { s with heap := g } D zs nw) :
    wpAny (model prog w) A (call (.type "zip") [.ref l1, .ref l2]) (fun xv s₁ => wpAny (model prog w) A (pyIter xv) (CgSrc prog w A h₀ L m env (.Tuple [.Name x px, .Name y py] kk tp) elt ifs scope cl Fin) E s₁) E s := by
  have hl1 := PySem.IsL.isList (n := k1) (N _ hm1).1
  have hl2 := PySem.IsL.isList (n := k2) (N _ hm2).1
  have hlt1 : l1 < s.heap.objs.size := Heap.lt_size (N _ hm1).1
  have hlt2 : l2 < s.heap.objs.size := Heap.lt_size (N _ hm2).1
  have D : ZipApart (s.heap.objs.size + 4) (s.heap.objs.size + 2) (s.heap.objs.size + 3) s.heap.objs.size (s.heap.objs.size + 1) l1 l2 := ktu_apart _ _ _ hlt1 hlt2
  refine call_zip_2 hl1 hl2 fun h' hz hTI hTO hi1 hi2 hsz' hk => wpAny_pyIter_zip hz ?_
  have lo5 : ∀ b ∈ [s.heap.objs.size + 4, s.heap.objs.size + 2, s.heap.objs.size + 3, s.heap.objs.size, s.heap.objs.size + 1], s.heap.objs.size ≤ b := all5 (Nat.le_add_right _ _) (Nat.le_add_right _ _) (Nat.le_add_right _ _) (Nat.le_refl _) (Nat.le_add_right _ _)
  refine .mk _ (s.heap.objs.size + 4) [s.heap.objs.size + 4, s.heap.objs.size + 2, s.heap.objs.size + 3, s.heap.objs.size, s.heap.objs.size + 1, l1, l2] [s.heap.objs.size + 4, s.heap.objs.size + 2, s.heap.objs.size + 3, s.heap.objs.size, s.heap.objs.size + 1] _ _ _ _ _ news [(l1, listOf xs.toArray k1), (l2, listOf ys.toArray k2)] _ J
    ((Turns.ofU (WalksT.zip2 hh _ _ _ _ _ _ _ D xs.toArray ys.toArray).toU ?_).widen ?_ ?_ ?_) ?_ ?_ (asg_pair hh ?_ hx hy hxy hkind) ⟨hz, hTI, ⟨_, _, hTO⟩, hi1, hi2, hl1.at fun o e => hk l1 o e, hl2.at fun o e => hk l2 o e⟩ ?_ (F.keeps hk) (N.grown hk) ?_ ?_ ?_ ?_ hJ ?_ ?_
  · exact fun i h st => all4 ⟨_, st.1⟩ (pair_obj st.2.2.1) (iter_obj st.2.2.2.1) (iter_obj st.2.2.2.2.1)
  · exact all4 m1 m3 m4 m5
  · exact all5 m1 m2 m3 m4 m5
  · exact fun i h st => all5 ⟨_, st.1⟩ ⟨_, st.2.1⟩ (pair_obj st.2.2.1) (iter_obj st.2.2.2.1) (iter_obj st.2.2.2.2.1)
  · simp; lia
  · exact all7 (.inl m1) (.inl m2) (.inl m3) (.inl m4) (.inl m5) (.inr ⟨_, m1⟩) (.inr ⟨_, m2⟩)
  · exact fun i vals h => Exists.elim h fun t h => Exists.elim h fun v h => ⟨_, _, h.2.2⟩
  · rw [hsz']
    exact all7 (ltk rfl) (ltk rfl) (ltk rfl) (ltk (i := 0) rfl) (ltk rfl) (Nat.lt_add_right 5 hlt1) (Nat.lt_add_right 5 hlt2)
  · exact fun hL => Nat.lt_irrefl _ (Nat.lt_of_lt_of_le F.ns.lt (lo5 _ hL))
  · exact fun b hb => ktu_new F (lo5 _ hb)
  · exact fun p hp hI' => Nat.lt_irrefl _ (Nat.lt_of_lt_of_le (Heap.lt_size (N p hp).1) (lo5 _ hI'))
  · exact all2 hm1 hm2
  · intro i zs nw hi hJ' o1 o2 o3 o4 o5 C oC D' m₂ h tk E' hG hC F' N' off'
    have hg : m₂ x = some (xs.getD i .none) ∧ m₂ y = some (ys.getD i .none) := by
      obtain ⟨a, b, ⟨v1, v2, hv1, hv2, e⟩, hx', hy'⟩ := hG
      have e := pair_inj e
      exact ⟨hx'.trans (congrArg some (e.1.trans (getD_arr hv1).symm)), hy'.trans (congrArg some (e.2.trans (getD_arr hv2).symm))⟩
    exact turn i zs nw (by simp at hi; lia) hJ' _ o1 _ o2 _ o3 _ o4 _ o5 C oC D' m₂ h tk E' hg.1 hg.2 hC F' N' off'
  · intro D ys' nw own haf hJ' hoff hlt
    have hJ'' : J xs.length ys' nw := by simpa [hlen] using hJ'
    rw [show own = [] from haf] at hoff ⊢
    exact fin D ys' nw _ hJ'' hoff hlt
/-- a list of triples in the ledger -/
theorem cg_trips {x y z : Str} {px py pz tp : Pos} {kk : Nat} {l : Addr} {ts : List Tup} {k : Nat} (hh : A.handled = none) (F : Fr h₀ L s.heap m) (N : News h₀ L s.heap news) (hm : (l, listOf (ts.map tupO.val).toArray k) ∈ news) (hts : ∀ t ∈ ts, tupO.ok news t) (hsz : ts.length ≤ sizeLine)
    (hx : scope.names.lookup x = some .local) (hy : scope.names.lookup y = some .local) (hz : scope.names.lookup z = some .local) (hxy : x ≠ y) (hxz : x ≠ z) (hyz : y ≠ z) (hkind : scope.kind = .function)
    (J : Nat → List Value → Led → Prop) (hJ : J 0 [] news)
    (turn : ∀ i ys nw, ∀ hi : i < ts.length, J i ys nw → ∀ I oI C oC D m₂ h tk (E' : Value → Shared → Prop), m₂ z = some (.str ts[i].2.2.2.1 ts[i].2.2.2.2) → NsObj oC m₂ → Fr h₀ L h m → News h₀ L h ((I, oI) :: (C, oC) :: (D, lst ys) :: nw) → Apt [I] C D nw →
      wpAny (model prog w) A (testsOf ifs (compEnvC scope cl C env)) (fun ok s' => if ok = true then wpAny (model prog w) A (eval elt (compEnvC scope cl C env)) (CgEnd h₀ L m { s with heap := h, toks := tk } [(I, oI)] [I] C oC D (lst ys) ((l, listOf (ts.map tupO.val).toArray k) :: ts.map fun t => (t.1, t.obj)) (fun y nw' => J (i + 1) (ys ++ [y]) nw')) E' s'
        else CgEnd h₀ L m { s with heap := h, toks := tk } [(I, oI)] [I] C oC D (lst ys) ((l, listOf (ts.map tupO.val).toArray k) :: ts.map fun t => (t.1, t.obj)) (fun _ nw' => J (i + 1) ys nw') .none s') E' { s with heap := h, toks := tk })
    (fin : ∀ D ys nw g, J ts.length ys nw → (∀ p ∈ nw, p.1 ≠ D) → (∀ p ∈ news, p.1 < D) → Fin { s with heap := g } D ys nw) :
    wpAny (model prog w) A (pyIter (.ref l)) (CgSrc prog w A h₀ L m env (.Tuple [.Name x px, .Name y py, .Name z pz] kk tp) elt ifs scope cl Fin) E s := by
  have hl := PySem.IsL.isList (n := k) (N _ hm).1
  have hlt : l < s.heap.objs.size := Heap.lt_size (N _ hm).1
  refine wpAny_pyIter_list hl ?_
  have up : ∀ b o, s.heap.get? b = some o → (s.heap.push { cls := .type "list_iterator", data := .fields #[.ref l, .int 0 0] }).get? b = some o := fun b o e => Heap.get?_push_of_some _ e
  have ltT : ∀ t ∈ ts, t.1 < s.heap.objs.size := fun t ht => Heap.lt_size (N _ (hts t ht)).1
  have gT : ∀ {β : Type} (f : Tup → β) (d : β) (j : Nat) (hj : j < ts.length), (ts.map f).getD j d = f ts[j] := fun f d j hj => by simp [hj]
  have hz' : (ts.map tupO.val).toArray.size = ts.length := by simp
  refine .mk _ s.heap.objs.size _ _ _ _ _ _ _ news ((l, listOf (ts.map tupO.val).toArray k) :: ts.map fun t => (t.1, t.obj)) _ J
    (Turns.ofU (WalksU.listOfTuples hh s.heap.objs.size l (Nat.ne_of_lt hlt) (ts.map tupO.val).toArray (fun j => (ts.map (·.1)).getD j 0) (fun j => ((ts.map fun t => t.vals).getD j []).toArray) ?_ ?_).bound ?_) (by simpa using hsz) ?_ (asg_trip hh ?_ hx hy hz hxy hxz hyz hkind) ⟨⟨_, Heap.get?_push_size _ rfl, rfl, rfl⟩, hl.push _, ?_⟩ ?_ (F.keeps up) (N.grown up) ?_ ?_ ?_ ?_ hJ ?_ ?_
  · intro j hj
    rw [hz'] at hj
    rw [gT _ _ _ hj]
    simp [hj, tupO]
  · intro j hj
    rw [hz'] at hj
    rw [gT _ _ _ hj]
    exact Nat.ne_of_lt (ltT _ (List.getElem_mem hj))
  · exact fun i h st => all1 (iter_obj st.1)
  · refine List.forall_mem_cons.mpr ⟨.inl m1, List.forall_mem_cons.mpr ⟨.inr ⟨_, m1⟩, fun b hb => ?_⟩⟩
    obtain ⟨j, hj, e⟩ := List.mem_map.mp hb
    have hj' : j < ts.length := by simpa using hj
    rw [gT _ _ _ hj'] at e
    exact .inr ⟨ts[j].obj, .tail _ (List.mem_map.mpr ⟨ts[j], List.getElem_mem hj', by rw [← e]⟩)⟩
  · intro i vals h
    have hi := hz' ▸ h.1
    have e := h.2
    rw [gT _ _ _ hi] at e
    exact ⟨_, _, _, e⟩
  · intro j hj
    rw [hz'] at hj
    rw [gT _ _ _ hj, gT _ _ _ hj]
    exact ⟨_, up _ _ (N _ (hts _ (List.getElem_mem hj))).1, rfl, _, rfl⟩
  · show ∀ b ∈ _, b < (s.heap.push _).objs.size
    rw [Heap.size_push]
    refine List.forall_mem_cons.mpr ⟨Nat.lt_succ_self _, List.forall_mem_cons.mpr ⟨Nat.lt_succ_of_lt hlt, fun b hb => ?_⟩⟩
    obtain ⟨j, hj, e⟩ := List.mem_map.mp hb
    have hj' : j < ts.length := by simpa using hj
    rw [gT _ _ _ hj'] at e
    exact e ▸ Nat.lt_succ_of_lt (ltT _ (List.getElem_mem hj'))
  · exact fun hL => Nat.ne_of_lt F.ns.lt (List.mem_singleton.mp hL)
  · exact all1 (next_is_new F)
  · exact fun p hp hI => Nat.ne_of_lt (Heap.lt_size (N p hp).1) (List.mem_singleton.mp hI)
  · exact List.forall_mem_cons.mpr ⟨hm, fun p hp => Exists.elim (List.mem_map.mp hp) fun t e => e.2 ▸ hts t e.1⟩
  · intro i ys nw hi hJ' oI C oC D m₂ h tk E' hG hC F' N' off'
    rw [hz'] at hi
    have hg : m₂ z = some (.str ts[i].2.2.2.1 ts[i].2.2.2.2) := by
      obtain ⟨a, b, c, ⟨_, hv⟩, hx', hy', hz''⟩ := hG
      rw [gT _ _ _ hi] at hv
      have e := congrArg Array.toList hv
      simp [Tup.vals] at e
      exact hz''.trans (congrArg some e.2.2)
    exact turn i ys nw hi hJ' s.heap.objs.size oI C oC D m₂ h tk E' hg hC F' N' off'
  · intro D ys nw own haf hJ' hoff hlt
    rw [hz'] at hJ'
    rw [show own = [] from haf] at hoff ⊢
    exact fin D ys nw _ hJ' hoff hlt
end

end

-- text: Zip
section
variable {prog : Program} {w : World} {A : Around} {E : Value → Shared → Prop} {s : Shared}
theorem nextOf_range_item {it : Addr} {x left step : Int} {Q : Value → Shared → Prop} (hit : IsRangeIter s.heap it x left step) (hleft : 0 < left)
    (hQ : ∀ h', IsRangeIter h' it (x + step) (left - 1) step → Heap.SameBut it s.heap h' → Q (.int x s.toks) { s with heap := h', toks := s.toks + 1 }) :
    wpAny (model prog w) A (Builtin.SmallTypes.nextOf (.ref it)) Q E s := by
  have hT : s.TypeIs (.ref it) "range_iterator" := ⟨_, hit, rfl⟩
  unfold Builtin.SmallTypes.nextOf
  refine wpAny_bind (wpAny_callSpecial?_slot (name := Str.ofString "__next__") hT PySem.F.slot_range_iterator_next
    (call_meets PySem.F.slot_range_iterator_next hT PySem.F.entry_range_iterator_next (PySem.F.args_range_iterator_next_1 _) (AutoRange.range_iterator___next___range_iterator_1 it x left step (by lia)) ⟨hit, ?_⟩))
  exact wpAny_pure (hQ _ (Heap.get?_update_self _ (Heap.get?_update_self _ hit rfl) rfl) ((Heap.SameBut.update ..).trans (Heap.SameBut.update ..)))
theorem nextOf_range_end {it : Addr} {x left step : Int} {Q : Value → Shared → Prop} (hh : A.handled = none) (hit : IsRangeIter s.heap it x left step) (hleft : left ≤ 0)
    (hE : ∀ h' e, Heap.ExtBut it s.heap h' → (∃ o, h'.get? e = some o ∧ o.cls = .type "StopIteration") → E (.ref e) { s with heap := h' }) : wpAny (model prog w) A (Builtin.SmallTypes.nextOf (.ref it)) Q E s := by
  have hT : s.TypeIs (.ref it) "range_iterator" := ⟨_, hit, rfl⟩
  unfold Builtin.SmallTypes.nextOf
  refine wpAny_bind (wpAny_callSpecial?_slot (name := Str.ofString "__next__") hT PySem.F.slot_range_iterator_next
    (wpAny_call_entry PySem.F.slot_range_iterator_next hT PySem.F.entry_range_iterator_next ?_ (PySem.F.args_range_iterator_next_1 _)))
  show wpAny _ _ (field (.ref it) 0 >>= _) _ _ s
  refine wpAny_bind (wpAny_field hit rfl (x := rawInt x) rfl ?_)
  show wpAny _ _ (field (.ref it) 1 >>= _) _ _ s
  refine wpAny_bind (wpAny_field hit rfl (x := rawInt left) rfl ?_)
  show wpAny _ _ (field (.ref it) 2 >>= _) _ _ s
  refine wpAny_bind (wpAny_field hit rfl (x := rawInt step) rfl ?_)
  show wpAny _ _ (if left ≤ 0 then _ else _) _ _ s
  rw [if_pos hleft]
  refine wpAny_bind (wpAny_rule ?_)
  refine wpAny_bind ?_
  show wpAny _ _ (newExc (.type "StopIteration") [] >>= _) _ _ _
  refine wpAny_bind ?_
  simp only [newExc, newTuple]
  refine wpAny_bind (wpAny_newObj_type ?_ (by size_fits))
  refine wpAny_bind (m := firstArgMember _ _) (wpAny_of_eq (a := Value.none) (by first | rfl | (simp only [firstArgMember]; rfl)) ?_)
  refine wpAny_newObj_type ?_ (by size_fits)
  simp only [raiseNew]
  refine wpAny_bind (wpAny_handled ?_)
  rw [show A.in1.handled = none from hh]
  refine wpAny_bind (wpAny_pure (wpAny_throw ?_))
  exact hE _ _ (fun b o _ e => Heap.get?_push_of_some _ (Heap.get?_push_of_some _ e)) ⟨_, Heap.get?_push_size _ rfl, rfl⟩
end

-- text: Zip2
section
open PyProof.Rows.LCg (NsObj ns_obj lst lst_snoc)
noncomputable def ItAt (l : Addr) (i : Nat) (o : Obj) : Prop := o.cls = .type "list_iterator" ∧ o.data = .fields #[.ref l, .int i 0]
section
variable {prog : Program} {w : World} {A : Around} {E : Value → Shared → Prop} {s : Shared}
theorem zr_next_item {z TI TO i1 i2 l : Addr} {k2 : Nat} {x left step : Int} {ys : Array Value} {y a b : Value} {Q : Value → Shared → Prop} (D : ZipApart z TI TO i1 i2 l l)
    (hz : IsZip s.heap z TI TO .none) (hTI : IsPair s.heap TI (.ref i1) (.ref i2)) (hTO : IsPair s.heap TO a b)
    (h1 : IsRangeIter s.heap i1 x left step) (hleft : 0 < left) (h2 : s.heap.IsListIter i2 l k2) (hl2 : s.heap.IsList l ys) (hy : ys[k2]? = some y)
    (hQ : ∀ h' t tk, IsZip h' z TI TO (rawInt s.heap.objs.size) → IsPair h' TO (.int x t) y → IsRangeIter h' i1 (x + step) (left - 1) step → h'.IsListIter i2 l (k2 + 1) → IsPair h' s.heap.objs.size (.int x t) y → h'.objs.size = s.heap.objs.size + 1 →
      (∀ c o, c ≠ z → c ≠ TO → c ≠ i1 → c ≠ i2 → s.heap.get? c = some o → h'.get? c = some o) → Q (.ref s.heap.objs.size) { s with heap := h', toks := tk }) :
    wpAny (model prog w) A (Builtin.«zip.__next__» ⟨[.ref z], []⟩) (fun fin s' => ∃ v, fin = .done (.ret v) ∧ Q v s') E s := by
  show wpAny _ _ (field (.ref z) 2 >>= _) _ _ _
  refine wpAny_bind (wpAny_field hz rfl (x := .bool false) rfl ?_)
  show wpAny _ _ (field (.ref z) 3 >>= _) _ _ _
  refine wpAny_bind (wpAny_field hz rfl (x := .ref TI) rfl ?_)
  refine wpAny_bind (wpAny_seqItems hTI rfl ?_)
  show wpAny _ _ (Builtin.SmallTypes.ownedTupleIsFree (.ref z) >>= _) _ _ _
  refine wpAny_bind ?_
  unfold Builtin.SmallTypes.ownedTupleIsFree
  refine wpAny_bind (wpAny_field hz rfl (x := .none) rfl (wpAny_pure ?_))
  simp only [if_true]
  refine wpAny_bind (wpAny_rule ?_)
  refine wpAny_bind (wpAny_field hz rfl (x := .ref TO) rfl ?_)
  refine wpAny_bind (wpAny_setField_rec hz (by simp) fun h₁ hz₁ hs₁ => ?_)
  replace hz₁ : IsZip h₁ z TI TO .ellipsis := hz₁
  refine wpAny_bind ?_
  simp only [List.zipIdx_cons, List.zipIdx_nil, List.forIn_cons, List.forIn_nil]
  refine wpAny_bind (wpAny_bind (wpAny_onRaise ?_))
  show wpAny _ _ (Builtin.SmallTypes.nextOf (.ref i1) >>= _) _ _ _
  refine wpAny_bind (nextOf_range_item (hs₁.extBut _ _ D.i1z h1) hleft fun h₂ h1₂ hs₂ => wpAny_pure ?_)
  have hTO₂ : IsPair h₂ TO a b := hs₂.extBut _ _ D.TOi1 (hs₁.extBut _ _ D.TOz hTO)
  refine wpAny_bind (wpAny_seqItems hTO₂ rfl ?_)
  refine wpAny_bind (wpAny_updateSeq_pair hTO₂ fun h₃ hTO₃ hs₃ => ?_)
  replace hTO₃ : IsPair h₃ TO (.int x s.toks) b := hTO₃
  refine wpAny_bind (wpAny_letGo (wpAny_pure ?_))
  refine wpAny_bind (wpAny_bind (wpAny_onRaise ?_))
  show wpAny _ _ (Builtin.SmallTypes.nextOf (.ref i2) >>= _) _ _ _
  refine wpAny_bind (wpAny_nextOf_list_item (((h2.extBut hs₁.extBut D.i2z).extBut hs₂.extBut D.i12.symm).extBut hs₃.extBut D.TOi2.symm)
    (((hl2.extBut hs₁.extBut D.l2z).extBut hs₂.extBut D.l2i1).extBut hs₃.extBut D.l2TO) hy fun h₄ h2₄ hs₄ => wpAny_pure ?_)
  have hTO₄ : IsPair h₄ TO (.int x s.toks) b := hs₄.extBut _ _ D.TOi2 hTO₃
  refine wpAny_bind (wpAny_seqItems hTO₄ rfl ?_)
  refine wpAny_bind (wpAny_updateSeq_pair hTO₄ fun h₅ hTO₅ hs₅ => ?_)
  replace hTO₅ : IsPair h₅ TO (.int x s.toks) y := hTO₅
  refine wpAny_bind (wpAny_letGo (wpAny_pure (wpAny_pure ?_)))
  refine wpAny_bind (wpAny_seqItems hTO₅ rfl ?_)
  refine wpAny_bind (wpAny_newTuple ?_)
  have hsz : h₅.objs.size = s.heap.objs.size := by rw [hs₅.1, hs₄.1, hs₃.1, hs₂.1, hs₁.1]
  have hz₅ : IsZip h₅ z TI TO .ellipsis := hs₅.extBut _ _ D.TOz.symm (hs₄.extBut _ _ D.i2z.symm (hs₃.extBut _ _ D.TOz.symm (hs₂.extBut _ _ D.i1z.symm hz₁)))
  have hk₅ : ∀ c o, c ≠ z → c ≠ TO → c ≠ i1 → c ≠ i2 → s.heap.get? c = some o → h₅.get? c = some o := fun c o c1 c2 c3 c4 e =>
    hs₅.extBut _ _ c2 (hs₄.extBut _ _ c4 (hs₃.extBut _ _ c2 (hs₂.extBut _ _ c3 (hs₁.extBut _ _ c1 e))))
  have h1₅ : IsRangeIter h₅ i1 (x + step) (left - 1) step := hs₅.extBut _ _ D.TOi1.symm (hs₄.extBut _ _ D.i12 (hs₃.extBut _ _ D.TOi1.symm h1₂))
  have h2₅ : h₅.IsListIter i2 l (k2 + 1) := h2₄.extBut hs₅.extBut D.TOi2.symm
  have hzlt : z < h₅.objs.size := Heap.lt_size hz₅
  show wpAny _ _ (Builtin.SmallTypes.ownedTupleHandOut (.ref z) (.ref h₅.objs.size) >>= _) _ _ _
  refine wpAny_bind ?_
  unfold Builtin.SmallTypes.ownedTupleHandOut
  have hz₆ : IsZip (h₅.push { cls := .type "tuple", data := .seq #[.int x s.toks, y] }) z TI TO .ellipsis := Heap.get?_push_of_some _ hz₅
  refine wpAny_bind (wpAny_setField_rec hz₆ (by simp) fun h₇ hz₇ hs₇ => ?_)
  replace hz₇ : IsZip h₇ z TI TO (rawInt h₅.objs.size) := hz₇
  refine wpAny_setField_rec hz₇ (by simp) fun h₈ hz₈ hs₈ => ?_
  replace hz₈ : IsZip h₈ z TI TO (rawInt h₅.objs.size) := hz₈
  have up : ∀ c o, c ≠ z → h₅.get? c = some o → h₈.get? c = some o := fun c o c1 e => hs₈.extBut _ _ c1 (hs₇.extBut _ _ c1 (Heap.get?_push_of_some _ e))
  have hT₈ : IsPair h₈ h₅.objs.size (.int x s.toks) y := hs₈.extBut _ _ (Nat.ne_of_gt hzlt) (hs₇.extBut _ _ (Nat.ne_of_gt hzlt) (Heap.get?_push_size _ rfl))
  have hz8 : h₈.objs.size = h₅.objs.size + 1 := by rw [hs₈.1, hs₇.1, Heap.size_push]
  rw [hsz] at hz₈ hT₈ hz8
  refine wpAny_pure ⟨_, rfl, ?_⟩
  show Q (.ref h₅.objs.size) _
  rw [hsz]
  exact hQ h₈ _ _ hz₈ (up _ _ D.TOz hTO₅) (up _ _ D.i1z h1₅) (h2₅.at fun o e => up _ o D.i2z e) hT₈ hz8 fun c o c1 c2 c3 c4 e => up c o c1 (hk₅ c o c1 c2 c3 c4 e)
theorem zr_next_end {z TI TO i1 i2 l : Addr} {x left step : Int} {a b : Value} {Q : PySem.Fin → Shared → Prop} (hh : A.handled = none) (D : ZipApart z TI TO i1 i2 l l)
    (hz : IsZip s.heap z TI TO .none) (hTI : IsPair s.heap TI (.ref i1) (.ref i2)) (hTO : IsPair s.heap TO a b) (h1 : IsRangeIter s.heap i1 x left step) (hleft : left ≤ 0)
    (hE : ∀ h' e, (∀ c o, c ≠ z → c ≠ i1 → s.heap.get? c = some o → h'.get? c = some o) → (∃ o, h'.get? e = some o ∧ o.cls = .type "StopIteration") → E (.ref e) { s with heap := h' }) :
    wpAny (model prog w) A (Builtin.«zip.__next__» ⟨[.ref z], []⟩) Q E s := by
  show wpAny _ _ (field (.ref z) 2 >>= _) _ _ _
  refine wpAny_bind (wpAny_field hz rfl (x := .bool false) rfl ?_)
  show wpAny _ _ (field (.ref z) 3 >>= _) _ _ _
  refine wpAny_bind (wpAny_field hz rfl (x := .ref TI) rfl ?_)
  refine wpAny_bind (wpAny_seqItems hTI rfl ?_)
  show wpAny _ _ (Builtin.SmallTypes.ownedTupleIsFree (.ref z) >>= _) _ _ _
  refine wpAny_bind ?_
  unfold Builtin.SmallTypes.ownedTupleIsFree
  refine wpAny_bind (wpAny_field hz rfl (x := .none) rfl (wpAny_pure ?_))
  simp only [if_true]
  refine wpAny_bind (wpAny_rule ?_)
  refine wpAny_bind (wpAny_field hz rfl (x := .ref TO) rfl ?_)
  refine wpAny_bind (wpAny_setField_rec hz (by simp) fun h₁ hz₁ hs₁ => ?_)
  replace hz₁ : IsZip h₁ z TI TO .ellipsis := hz₁
  refine wpAny_bind ?_
  simp only [List.zipIdx_cons, List.zipIdx_nil, List.forIn_cons, List.forIn_nil]
  refine wpAny_bind (wpAny_bind (wpAny_onRaise ?_))
  show wpAny _ _ (Builtin.SmallTypes.nextOf (.ref i1) >>= _) _ _ _
  refine wpAny_bind (nextOf_range_end hh (hs₁.extBut _ _ D.i1z h1) hleft fun h₂ e hs₂ he => ?_)
  obtain ⟨oe, hoe, hce⟩ := he
  have hz₂ : IsZip h₂ z TI TO .ellipsis := hs₂ _ _ D.i1z.symm hz₁
  have hez : e ≠ z := fun x => by subst x; rw [hz₂] at hoe; cases hoe; simp at hce
  refine wpAny_setField_rec hz₂ (by simp) fun h₃ _ hs₃ => hE h₃ e (fun c o c1 c3 x => hs₃.extBut _ _ c1 (hs₂ _ _ c3 (hs₁.extBut _ _ c1 x))) ⟨oe, hs₃.extBut _ _ hez hoe, hce⟩
theorem Turns.zipR {elts : List PySem.Expr} {k : Nat} {pos : Pos} (hh : A.handled = none) (z TI TO i1 i2 l : Addr) (D : ZipApart z TI TO i1 i2 l l) (x c : Int) (n : Nat) (ys : Array Value) (hn : n ≤ ys.size) :
    Turns prog w A (.Tuple elts k pos) z [z, TI, TO, i1, i2, l] [z, TI, TO, i1, i2] n (fun i v h => ∃ T vals, v = .ref T ∧ (∃ t y, ys[i]? = some y ∧ vals = #[.int (x + (i : Int) * c) t, y]) ∧ h.IsTuple T vals)
      (fun i v h => ∃ T vals, v = .ref T ∧ (∃ t y, ys[i]? = some y ∧ vals = #[.int (x + (i : Int) * c) t, y]) ∧ h.IsTuple T vals ∧ T ≠ z ∧
        IsZip h z TI TO (rawInt T) ∧ IsPair h TI (.ref i1) (.ref i2) ∧ (∃ a b, IsPair h TO a b) ∧ IsRangeIter h i1 (x + ((i + 1 : Nat) : Int) * c) ((n : Int) - ((i + 1 : Nat) : Int)) c ∧ h.IsListIter i2 l (i + 1) ∧ h.IsList l ys)
      (fun i h => IsZip h z TI TO .none ∧ IsPair h TI (.ref i1) (.ref i2) ∧ (∃ a b, IsPair h TO a b) ∧ IsRangeIter h i1 (x + (i : Int) * c) ((n : Int) - (i : Int)) c ∧ h.IsListIter i2 l i ∧ h.IsList l ys)
      (fun own => ∃ o, own = [(i2, o)] ∧ ItAt l n o) where
  sub := all5 m1 m2 m3 m4 m5
  there := fun i h st => all5 ⟨_, st.1⟩ ⟨_, st.2.1⟩ (pair_obj st.2.2.1) ⟨_, st.2.2.2.1⟩ (iter_obj st.2.2.2.2.1)
  frame := fun i h h' st hk => ⟨hk z m1 _ st.1, hk TI m2 _ st.2.1, pair_up (hk TO m3) st.2.2.1, hk i1 m4 _ st.2.2.2.1, st.2.2.2.2.1.at fun o e => hk i2 m5 o e, st.2.2.2.2.2.at fun o e => hk l m6 o e⟩
  item := fun i s Q E hi st hQ => by
    obtain ⟨a, b, hTO⟩ := st.2.2.1
    have hiy : i < ys.size := Nat.lt_of_lt_of_le hi hn
    have hT : s.TypeIs (.ref z) "zip" := ⟨_, st.1, rfl⟩
    unfold pyNext
    refine wpAny_bind (wpAny_attempt (wpAny_callSpecial?_slot (name := Str.ofString "__next__") hT F.slot_zip_next
      (wpAny_call_entry F.slot_zip_next hT F.entry_zip_next (zr_next_item D st.1 st.2.1 hTO st.2.2.2.1 (by lia) st.2.2.2.2.1 st.2.2.2.2.2 (Array.getElem?_eq_getElem hiy) fun h' t tk a1 a2 a3 a4 a5 a6 a7 => wpAny_pure ?_) (F.args_zip_next_1 _))))
    have e1 : x + ((i + 1 : Nat) : Int) * c = x + (i : Int) * c + c := by push_cast; rw [Int.add_mul, Int.one_mul, Int.add_assoc]
    have e2 : (n : Int) - ((i + 1 : Nat) : Int) = (n : Int) - (i : Int) - 1 := by push_cast; lia
    exact hQ _ h' tk ⟨s.heap.objs.size, _, rfl, ⟨t, _, Array.getElem?_eq_getElem hiy, rfl⟩, ⟨_, a5, rfl, _, rfl⟩, Nat.ne_of_gt (Heap.lt_size st.1), a1, a7 _ _ D.TIz D.TITO D.TIi1 D.TIi2 st.2.1, ⟨_, _, a2⟩, (by rw [e1, e2]; exact a3), a4, st.2.2.2.2.2.at fun o e => a7 _ o D.l1z D.l1TO D.l1i1 D.l1i2 e⟩
      fun b o hb e => a7 b o (fun q => hb (q ▸ m1)) (fun q => hb (q ▸ m3)) (fun q => hb (q ▸ m4)) (fun q => hb (q ▸ m5)) e
  go := fun i v s Q E hm hQ => by
    refine gen_P fun R9 hR9 => ?_
    obtain ⟨T, vals, rfl, hP, hT, hTz, hm⟩ := hm
    refine of_P hR9 ?_
    clear hR9 R9
    exact wpAny_letOwnedTupleGo_zip hm.1 fun h' hz' hs' => hQ h' ⟨T, vals, rfl, hP, hT.extBut hs'.extBut hTz⟩ ⟨hz', hs'.extBut _ _ D.TIz hm.2.1, pair_up (fun _ e => hs'.extBut _ _ D.TOz e) hm.2.2.1, hs'.extBut _ _ D.i1z hm.2.2.2.1, hm.2.2.2.2.1.extBut hs'.extBut D.i2z,
      hm.2.2.2.2.2.extBut hs'.extBut D.l1z⟩ fun b o hb e => hs'.extBut _ _ (fun q => hb (q ▸ m1)) e
  done := fun s Q E st hQ => by
    obtain ⟨a, b, hTO⟩ := st.2.2.1
    obtain ⟨o2, ho2⟩ := st.2.2.2.2.1
    have hT : s.TypeIs (.ref z) "zip" := ⟨_, st.1, rfl⟩
    unfold pyNext
    refine wpAny_bind (wpAny_attempt (wpAny_callSpecial?_slot (name := Str.ofString "__next__") hT F.slot_zip_next
      (wpAny_call_entry F.slot_zip_next hT F.entry_zip_next (zr_next_end hh D st.1 st.2.1 hTO st.2.2.2.1 (by lia) fun h' e hk he => ?_) (F.args_zip_next_1 _))))
    exact wpAny_bind (wpAny_isInstance (T := "StopIteration") (b := true) he isSubtype_stop (wpAny_pure (hQ h' s.toks [(i2, o2)] ⟨o2, rfl, ho2.2⟩ (all1 ⟨hk _ _ D.i2z D.i12.symm ho2.1, m5⟩) fun b o hb e => hk b o (fun q => hb (q ▸ m1)) (fun q => hb (q ▸ m4)) e)))
  self := fun s Q E hst hQ => wpAny_pyIter_zip hst.1 hQ
noncomputable abbrev zrH1 (h : Heap) (a n c : Int) : Heap := h.push { cls := .type "range_iterator", data := .fields #[rawInt a, rawInt n, rawInt c] }
noncomputable abbrev zrH3 (h : Heap) (a n c : Int) (i2 : Addr) : Heap := (zrH1 h a n c).push { cls := .type "tuple", data := .seq #[.ref h.objs.size, .ref i2] }
noncomputable abbrev zrH4 (h : Heap) (a n c : Int) (i2 : Addr) : Heap := (zrH3 h a n c i2).push { cls := .type "tuple", data := .seq #[.none, .none] }
noncomputable abbrev zrH5 (h : Heap) (a n c : Int) (i2 : Addr) : Heap := (zrH4 h a n c i2).push { cls := .type "zip", data := .fields #[.none, .bool false, .bool false, .ref (zrH1 h a n c).objs.size, .ref (zrH3 h a n c i2).objs.size] }
theorem meets_zip_newR (r i2 l : Addr) (a b c : Int) (t u v : Tok) (j : Nat) (hsm : Builtin.Range.small a b c = true) :
    Meets (Builtin.«zip.__new__» ⟨[.type "zip", .ref r, .ref i2], []⟩) (fun _ R s => IsRange s.heap r a b c t u v ∧ s.heap.IsListIter i2 l j ∧
      R (.ok (.ret (.ref (zrH4 s.heap a (Builtin.Range.rangeSize a b c) c i2).objs.size))) { s with heap := zrH5 s.heap a (Builtin.Range.rangeSize a b c) c i2 }) :=
  .of_wp fun prog w A R s h => by
    obtain ⟨hp, g, d, tk, os⟩ := s; obtain ⟨hl1, hl2, h⟩ := h
    have hsub := sub_zip
    have hL1 : IsRange (Shared.heap ⟨hp, g, d, tk, os⟩) r a b c t u v := hl1
    have hL2 : Heap.IsListIter (Shared.heap ⟨hp.push { cls := .type "range_iterator", data := .fields #[rawInt a, rawInt (Builtin.Range.rangeSize a b c), rawInt c] }, g, d, tk, os⟩) i2 l j := hl2.at fun o e => Heap.get?_push_of_some _ e
    wp_walk using wpAny_pyIter_range hL1 hsm, wpAny_pyIter_listiter hL2
    exact ⟨_, rfl, h⟩
theorem call_zipR {r i2 l : Addr} {a b c : Int} {t u v : Tok} {j : Nat} {Q : Value → Shared → Prop} (hsm : Builtin.Range.small a b c = true) (hr : IsRange s.heap r a b c t u v) (hi : s.heap.IsListIter i2 l j)
    (h : ∀ h', IsZip h' (s.heap.objs.size + 3) (s.heap.objs.size + 1) (s.heap.objs.size + 2) .none → IsPair h' (s.heap.objs.size + 1) (.ref s.heap.objs.size) (.ref i2) →
      IsPair h' (s.heap.objs.size + 2) .none .none → IsRangeIter h' s.heap.objs.size a (Builtin.Range.rangeSize a b c) c → h'.objs.size = s.heap.objs.size + 4 →
      (∀ c o, s.heap.get? c = some o → h'.get? c = some o) → Q (.ref (s.heap.objs.size + 3)) { s with heap := h' }) :
    wpAny (model prog w) A (call (.type "zip") [.ref r, .ref i2]) Q E s := by
  refine callType_new F.called_zip (by decide) (F.typeCall_zip_2 _ _) (F.newCall_zip_2 _ _) (fun obj => F.args_object_init_3 obj _ _) F.entry_zip_new
    (meets_zip_newR r i2 l a b c t u v j hsm) ⟨hr, hi, ?_⟩
  have z1 : (zrH1 s.heap a (Builtin.Range.rangeSize a b c) c).objs.size = s.heap.objs.size + 1 := Heap.size_push ..
  have z3 : (zrH3 s.heap a (Builtin.Range.rangeSize a b c) c i2).objs.size = s.heap.objs.size + 2 := by rw [Heap.size_push, z1]
  have z4 : (zrH4 s.heap a (Builtin.Range.rangeSize a b c) c i2).objs.size = s.heap.objs.size + 3 := by rw [Heap.size_push, z3]
  have z5 : (zrH5 s.heap a (Builtin.Range.rangeSize a b c) c i2).objs.size = s.heap.objs.size + 4 := by rw [Heap.size_push, z4]
  have g5 : (zrH5 s.heap a (Builtin.Range.rangeSize a b c) c i2).get? (zrH4 s.heap a (Builtin.Range.rangeSize a b c) c i2).objs.size = some _ := Heap.get?_push_size _ rfl
  have g4 : (zrH5 s.heap a (Builtin.Range.rangeSize a b c) c i2).get? (zrH3 s.heap a (Builtin.Range.rangeSize a b c) c i2).objs.size = some _ := Heap.get?_push_of_some _ (Heap.get?_push_size _ rfl)
  have g3 : (zrH5 s.heap a (Builtin.Range.rangeSize a b c) c i2).get? (zrH1 s.heap a (Builtin.Range.rangeSize a b c) c).objs.size = some _ := Heap.get?_push_of_some _ (Heap.get?_push_of_some _ (Heap.get?_push_size _ rfl))
  have g1 : (zrH5 s.heap a (Builtin.Range.rangeSize a b c) c i2).get? s.heap.objs.size = some _ := Heap.get?_push_of_some _ (Heap.get?_push_of_some _ (Heap.get?_push_of_some _ (Heap.get?_push_size _ rfl)))
  show _ ∧ _
  rw [z1, z3, z4] at g5
  rw [z1] at g3
  rw [z3] at g4
  rw [z4]
  exact ⟨⟨_, g5, rfl⟩, h _ g5 g3 g4 g1 z5 fun c o x => Heap.get?_push_of_some _ (Heap.get?_push_of_some _ (Heap.get?_push_of_some _ (Heap.get?_push_of_some _ x)))⟩
end

end

-- text: Zip3
section
open PyProof.Rows.LCg (NsObj ns_obj lst lst_snoc)
section
variable {prog : Program} {w : World} {A : Around} {E : Value → Shared → Prop} {s : Shared} {h₀ : Heap} {L : Addr} {m : Str → Option Value} {env : Env} {elt : PySem.Expr} {ifs : List PySem.Expr} {scope : Scope} {cl : List (Str × Addr)} {Fin : Shared → Addr → List Value → Led → Prop} {news : Led}
theorem cg_zipR {x y : Str} {px py tp : Pos} {kk : Nat} {r it l : Addr} {oI : Obj} {ys : List Value} {k n : Nat} {a b c : Int} {t u v : Tok} (hh : A.handled = none) (F : Fr h₀ L s.heap m) (N : News h₀ L s.heap ((it, oI) :: news)) (hI : ItAt l 0 oI) (offI : ∀ p ∈ news, p.1 ≠ it) (hm : (l, listOf ys.toArray k) ∈ news)
    (hr : IsRange s.heap r a b c t u v) (hsm : Builtin.Range.small a b c = true) (hrs : Builtin.Range.rangeSize a b c = (n : Nat)) (hn : n ≤ ys.length) (hsz : ys.length ≤ sizeLine) (hx : scope.names.lookup x = some .local) (hy : scope.names.lookup y = some .local) (hxy : x ≠ y) (hkind : scope.kind = .function)
    (J : Nat → List Value → Led → Prop) (hJ : J 0 [] news)
    (turn : ∀ i zs nw, i < n → J i zs nw → ∀ I1 o1 I2 o2 I3 o3 I4 o4 o5 C oC D m₂ h tk (E' : Value → Shared → Prop), (∃ t, m₂ x = some (.int (a + (i : Int) * c) t)) → m₂ y = some (ys.getD i .none) → NsObj oC m₂ → Fr h₀ L h m → News h₀ L h ((I1, o1) :: (I2, o2) :: (I3, o3) :: (I4, o4) :: (it, o5) :: (C, oC) :: (D, lst zs) :: nw) → Apt [I1, I2, I3, I4, it] C D nw →
      wpAny (model prog w) A (testsOf ifs (compEnvC scope cl C env)) (fun ok s' => if ok = true then wpAny (model prog w) A (eval elt (compEnvC scope cl C env)) (CgEnd h₀ L m { s with heap := h, toks := tk } [(I1, o1), (I2, o2), (I3, o3), (I4, o4), (it, o5)] [I1, I2, I3, I4, it] C oC D (lst zs) [(l, listOf ys.toArray k)] (fun y nw' => J (i + 1) (zs ++ [y]) nw')) E' s'
        else CgEnd h₀ L m { s with heap := h, toks := tk } [(I1, o1), (I2, o2), (I3, o3), (I4, o4), (it, o5)] [I1, I2, I3, I4, it] C oC D (lst zs) [(l, listOf ys.toArray k)] (fun _ nw' => J (i + 1) zs nw') .none s') E' { s with heap := h, toks := tk })
    (fin : ∀ D zs nw g o, ItAt l n o → J n zs nw → (∀ p ∈ (it, o) :: nw, p.1 ≠ D) → (∀ p ∈ news, p.1 < D) → Fin { s with heap := g } D zs ((it, o) :: nw)) :
    wpAny (model prog w) A (call (.type "zip") [.ref r, .ref it]) (fun xv s₁ => wpAny (model prog w) A (pyIter xv) (CgSrc prog w A h₀ L m env (.Tuple [.Name x px, .Name y py] kk tp) elt ifs scope cl Fin) E s₁) E s := by
  have hN : News h₀ L s.heap news := fun p hp => N p (.tail _ hp)
  have zit := N _ (.head _)
  have hl := PySem.IsL.isList (n := k) (hN _ hm).1
  have hit : s.heap.IsListIter it l 0 := ⟨oI, zit.1, hI.1, hI.2⟩
  have hlt : @LT.lt Nat _ l s.heap.objs.size := Heap.lt_size (hN _ hm).1
  have hlti : @LT.lt Nat _ it s.heap.objs.size := Heap.lt_size zit.1
  have hli : @Ne Nat l it := offI _ hm
  have D : ZipApart (s.heap.objs.size + 3) (s.heap.objs.size + 1) (s.heap.objs.size + 2) s.heap.objs.size it l l := by
    constructor <;> (show @Ne Nat _ _; lia)
  refine call_zipR hsm hr hit fun h' hz hTI hTO hi1 hsz' hk => wpAny_pyIter_zip hz ?_
  rw [hrs] at hi1
  have lo5 : ∀ b ∈ [s.heap.objs.size + 3, s.heap.objs.size + 1, s.heap.objs.size + 2, s.heap.objs.size, it], s.heap.objs.size ≤ b ∨ b = it := all5 (.inl (Nat.le_add_right _ _)) (.inl (Nat.le_add_right _ _)) (.inl (Nat.le_add_right _ _)) (.inl (Nat.le_refl _)) (.inr rfl)
  have st0 : IsRangeIter h' s.heap.objs.size (a + ((0 : Nat) : Int) * c) ((n : Int) - ((0 : Nat) : Int)) c := by
    have e1 : a + ((0 : Nat) : Int) * c = a := by simp
    have e2 : (n : Int) - ((0 : Nat) : Int) = n := by simp
    rw [e1, e2]; exact hi1
  refine .mk _ (s.heap.objs.size + 3) _ _ n _ _ _ _ news [(l, listOf ys.toArray k)] _ J (Turns.zipR hh _ _ _ _ _ _ D a c n ys.toArray (by simpa using hn)) (by lia) ?_ (asg_pair hh ?_ hx hy hxy hkind) ⟨hz, hTI, ⟨_, _, hTO⟩, st0, hit.at fun o e => hk _ o e, hl.at fun o e => hk l o e⟩ ?_ (F.keeps hk) (hN.grown hk) ?_ ?_ ?_ ?_ hJ ?_ ?_
  · exact all6 (.inl m1) (.inl m2) (.inl m3) (.inl m4) (.inl m5) (.inr ⟨_, m1⟩)
  · exact fun i vals h => Exists.elim h fun t h => Exists.elim h fun v h => ⟨_, _, h.2⟩
  · rw [hsz']
    exact all6 (ltk rfl) (ltk rfl) (ltk rfl) (ltk (i := 0) rfl) (Nat.lt_add_right 4 hlti) (Nat.lt_add_right 4 hlt)
  · exact fun hL => (lo5 _ hL).elim (fun h => Nat.lt_irrefl _ (Nat.lt_of_lt_of_le F.ns.lt h)) fun h => zit.2.1 h.symm
  · exact fun b hb => (lo5 _ hb).elim (fun h => ktu_new F h) fun h => h ▸ zit.2.2
  · exact fun p hp hI' => (lo5 _ hI').elim (fun h => Nat.lt_irrefl _ (Nat.lt_of_lt_of_le (Heap.lt_size (hN p hp).1) h)) fun h => offI p hp h
  · exact all1 hm
  · intro i zs nw hi hJ' o1 o2 o3 o4 o5 C oC D' m₂ h tk E' hG hC F' N' off'
    have hg : (∃ t, m₂ x = some (.int (a + (i : Int) * c) t)) ∧ m₂ y = some (ys.getD i .none) := by
      obtain ⟨v1, v2, ⟨t, v, hv, e⟩, hx', hy'⟩ := hG
      have e := pair_inj e
      exact ⟨⟨t, hx'.trans (congrArg some e.1)⟩, hy'.trans (congrArg some (e.2.trans (getD_arr hv).symm))⟩
    exact turn i zs nw hi hJ' _ o1 _ o2 _ o3 _ o4 o5 C oC D' m₂ h tk E' hg.1 hg.2 hC F' N' off'
  · rintro D zs nw own ⟨o, rfl, ho⟩ hJ' hoff hlt
    exact fin D zs nw _ o ho hJ' hoff hlt
end
/-- a list iterator that has given k of its items -/
theorem Walks.listFrom {prog : Program} {w : World} {A : Around} (hh : A.handled = none) (I ax : Addr) (hne : ax ≠ I) (items : Array Value) (k : Nat) (hk : k ≤ items.size) :
    Walks prog w A I [I, ax] [I] (items.size - k) (fun i v => items[k + i]? = some v) (fun i h => h.IsListIter I ax (k + i) ∧ h.IsList ax items) where
  sub := fun b hb => by simp at hb; simp [hb]
  frame := fun _ _ _ st hk => ⟨st.1.at fun o e => hk I (by simp) o e, st.2.at fun o e => hk ax (by simp) o e⟩
  item := fun i s Q E hi st hQ => by
    have hki : k + i < items.size := by lia
    refine wpAny_pyNext_list_item st.1 st.2 (x := items[k + i]) (by simp [hki]) fun h' hit' hs' => ?_
    exact hQ _ h' s.toks (by simp [hki]) ⟨hit', st.2.extBut hs'.extBut hne⟩ fun b o hb e => hs'.extBut b o (fun h => hb (by simp [h])) e
  done := fun s Q E st hQ => wpAny_pyNext_list_end hh st.1 st.2 (by simp; lia) fun h' he' => hQ h' s.toks fun b o hb e => he' b o (fun h => hb (by simp [h])) e
  self := fun _ _ _ _ st hQ => wpAny_pyIter_listiter st.1 hQ
section
variable {prog : Program} {w : World} {A : Around} {E : Value → Shared → Prop} {s : Shared} {env : Env} {h₀ : Heap} {target : PySem.Expr} {body : List Stmt} {Q : Flow → Shared → Prop}
/-- for over a list iterator that has given k of its items -/
theorem iter_fromTurns {I ax : Addr} {oI : Obj} {vs : List Value} {n k : Nat} {m₀ : Str → Option Value} {news : Led} {x : Str} {px : Pos} (hh : A.handled = none) (F : Fr h₀ env.locals s.heap m₀) (N : News h₀ env.locals s.heap ((I, oI) :: news)) (hI : ItAt ax k oI) (hk : k ≤ vs.length) (hm : (ax, listOf vs.toArray n) ∈ news)
    (off : ∀ p ∈ news, p.1 ≠ I)
    (rest₀ : ItemsRest prog w A E h₀ env (.Name x px) body Q s [(I, "list_iterator")] [(ax, listOf vs.toArray n)] ((vs.drop k).map Itm.val) m₀ news) :
    wpAny (model prog w) A (pyIter (.ref I)) (fun it s₂ => TurnsAt prog w A h₀ env (.Name x px) body Q E it s₂) E s := by
  have zI := N _ (.head _)
  have hN : News h₀ env.locals s.heap news := fun p hp => N p (.tail _ hp)
  have hl := PySem.IsL.isList (n := n) (hN _ hm).1
  have hit : s.heap.IsListIter I ax k := ⟨oI, zI.1, hI.1, hI.2⟩
  refine wpAny_pyIter_listiter hit ?_
  have W := Walks.listFrom (prog := prog) (w := w) (A := A) hh I ax (off _ hm) vs.toArray k (by simpa using hk)
  have key := ktu_core (prog := prog) (w := w) (A := A) (E := E) (Q := Q) (s := s) (env := env) (body := body) (target := .Name x px) (h₀ := h₀) (tk0 := s.toks) (keep := [(ax, listOf vs.toArray n)]) (ws := [(I, "list_iterator")]) (xs := (vs.drop k).map Itm.val) (hp := s.heap)
    (KTurns.ofWalks W fun i v s Q E st q => wpAny_pure q) (by simp) (fun i v h hp => ?_) (fun i h st => ?_) (fun b hb => ?_) (fun b hb => by simpa using hb) (fun b hb => ?_) ?_ (fun p hp hI' => ?_) ?_ F hN ⟨hm, trivial⟩ rest₀
  · exact key
  · refine ⟨.val v, ?_, rfl⟩
    have e : vs.toArray[k + i]? = vs[k + i]? := by simp
    rw [e] at hp
    simp [hp]
  · obtain ⟨o, e⟩ := st.1
    exact ⟨[(I, o)], ⟨⟨rfl, e.2.1⟩, trivial⟩, all1 e.1⟩
  · exact (all1 ⟨m1, zI.2.2⟩ : ∀ b ∈ [I], b ∈ [I, ax] ∧ h₀.get? b = none) b hb
  · exact (all2 (.inl m1) (.inr ⟨_, m1⟩) : ∀ b ∈ [I, ax], b ∈ [I] ∨ ∃ o, (b, o) ∈ [(ax, listOf vs.toArray n)]) b hb
  · exact fun h => (all2 (fun e => zI.2.1 e.symm) (fun e => (hN _ hm).2.1 e.symm) : ∀ b ∈ [I, ax], env.locals ≠ b) _ h rfl
  · exact off p hp (List.mem_singleton.mp hI')
  · exact ⟨hit, hl⟩
end

end

-- text: Trs
/-- what a triple tells: module, number, path -/
noncomputable def Tup.core (t : Tup) : Str × Int × Str := (t.2.1.1, t.2.2.1.1, t.2.2.2.1)
/-- the triples' places in the ledger -/
noncomputable def tents (ts : List Tup) : Led := ts.map fun t => (t.1, t.obj)
theorem tents_ok {ts : List Tup} {nw : Led} (h : ∀ p ∈ tents ts, p ∈ nw) : ∀ t ∈ ts, tupO.ok nw t := fun t ht => h _ (List.mem_map.mpr ⟨t, ht, rfl⟩)
/-- the first i of the paths as triples -/
noncomputable def Trs (kf : Str → Str) (xs : List (Str × Tok)) (a c : Int) (i : Nat) (ts : List Tup) : Prop := ts.map Tup.core = (List.range i).map fun (j : Nat) => (kf (xs.getD j default).1, a + (j : Int) * c, (xs.getD j default).1)
theorem Trs.nil {kf : Str → Str} {xs : List (Str × Tok)} {a c : Int} : Trs kf xs a c 0 [] := rfl
theorem Trs.snoc {kf : Str → Str} {xs : List (Str × Tok)} {a c : Int} {i : Nat} {ts : List Tup} (h : Trs kf xs a c i ts) {T : Addr} {t1 t2 t3 : Tok} :
    Trs kf xs a c (i + 1) (ts ++ [(T, (kf (xs.getD i default).1, t1), (a + (i : Int) * c, t2), ((xs.getD i default).1, t3))]) := by
  unfold Trs at *
  rw [List.map_append, h, List.range_succ, List.map_append]
  rfl
theorem Trs.length {kf : Str → Str} {xs : List (Str × Tok)} {a c : Int} {i : Nat} {ts : List Tup} (h : Trs kf xs a c i ts) : ts.length = i := by
  have := congrArg List.length h
  simpa using this
theorem getD_strs {xs : List (Str × Tok)} {i : Nat} (hi : i < xs.length) : (xs.map strO.val).getD i .none = .str (xs.getD i default).1 (xs.getD i default).2 := by
  simp [hi, strO]
theorem getD_mem {xs : List (Str × Tok)} {i : Nat} (hi : i < xs.length) : xs.getD i default ∈ xs := by
  simp [hi]
theorem snoc_val {ts : List Tup} {T : Addr} {k p : Str × Tok} {i : Int × Tok} : ts.map tupO.val ++ [.ref T] = (ts ++ [(T, k, i, p)]).map tupO.val := by simp [tupO]
theorem range_size1 (k : Nat) : Builtin.Range.rangeSize 0 (k : Int) 1 = (k : Nat) := by
  unfold Builtin.Range.rangeSize
  rw [if_pos (by decide)]
  split <;> lia
theorem range_small {k : Nat} (h : k < 1000) : Builtin.Range.small 0 (k : Int) 1 = true := by
  unfold Builtin.Range.small
  rw [range_size1]
  have fl : ∀ x : Int, -(2 ^ 62) ≤ x → x ≤ 2 ^ 62 → Builtin.Range.rangeFitsLong x = true := fun x h1 h2 => by
    unfold Builtin.Range.rangeFitsLong
    simp only [Bool.and_eq_true, decide_eq_true_eq]
    lia
  simp only [fl 0 (by lia) (by lia), fl (k : Int) (by lia) (by lia), fl 1 (by lia) (by lia), fl ((k : Int) + (1 - 1)) (by lia) (by lia), Bool.and_self, Bool.true_and]
  simp
theorem range_size2 {k : Nat} (h : 0 < k) : Builtin.Range.rangeSize 0 (-(k : Int)) (-1) = (k : Nat) := by
  unfold Builtin.Range.rangeSize
  rw [if_neg (by decide)]
  have e : (0 - -(k : Int) - 1) / - -1 = (k : Int) - 1 := by
    rw [show (- -1 : Int) = 1 from rfl, Int.ediv_one]; lia
  rw [e]
  split <;> lia
theorem range_small2 {k : Nat} (h0 : 0 < k) (h : k < 1000) : Builtin.Range.small 0 (-(k : Int)) (-1) = true := by
  unfold Builtin.Range.small
  rw [range_size2 h0]
  have fl : ∀ x : Int, -(2 ^ 62) ≤ x → x ≤ 2 ^ 62 → Builtin.Range.rangeFitsLong x = true := fun x h1 h2 => by
    unfold Builtin.Range.rangeFitsLong
    simp only [Bool.and_eq_true, decide_eq_true_eq]
    lia
  simp only [fl 0 (by lia) (by lia), fl (k : Int) (by lia) (by lia), fl (-1) (by lia) (by lia), fl (-(k : Int)) (by lia) (by lia), fl (-(k : Int) + (-1 + 1)) (by lia) (by lia), Bool.and_self, Bool.true_and]
  simp
noncomputable abbrev Core := Str × Int × Str
noncomputable def Core.less (x y : Core) : Bool := if x.1 = y.1 then (if x.2.1 = y.2.1 then (if x.2.2 = y.2.2 then false else sless x.2.2 y.2.2) else decide (x.2.1 < y.2.1)) else sless x.1 y.1
theorem less_core (x y : Tup) : tupO.lt x y = Core.less x.core y.core := rfl
/-- one more path against the heap of the few -/
noncomputable def topStep (lt : Core → Core → Bool) (cmp : Str → Str → Bool) (d : Int) (kf : Str → Str) (st : List Core × Int) (x : Str) : List Core × Int :=
  if cmp (kf x) (st.1[0]!).1 then (sup lt (st.1.set 0 (kf x, st.2, x)) 0, st.2 + d) else st
theorem mem_rot {α : Type} {xs rs : List α} {T p : α} (h : p ∈ xs ++ T :: rs) : p ∈ T :: (xs ++ rs) := by
  rcases List.mem_append.mp h with h | h
  · exact .tail _ (List.mem_append_left _ h)
  · rcases List.mem_cons.mp h with rfl | h
    · exact .head _
    · exact .tail _ (List.mem_append_right _ h)
theorem apt_new {own nw : Led} {T C D : Addr} {oC oD : Obj} (h : ∀ p ∈ own ++ (C, oC) :: (D, oD) :: nw, p.1 ≠ T) : T ∉ own.map (·.1) ∧ T ≠ C ∧ T ≠ D := by
  refine ⟨fun hm => ?_, Ne.symm (h _ (List.mem_append_right _ (.head _))), Ne.symm (h _ (List.mem_append_right _ (.tail _ (.head _))))⟩
  obtain ⟨p, hp, e⟩ := List.mem_map.mp hm
  exact h p (List.mem_append_left _ hp) e
theorem apt_ins {wr : List Addr} {C D T : Addr} {o : Obj} {a b : Addr × Obj} {rs : Led} (h : Apt wr C D (a :: b :: rs)) (hT : T ∉ wr ∧ T ≠ C ∧ T ≠ D) : Apt wr C D (a :: b :: (T, o) :: rs) := fun p hp => by
  rcases List.mem_cons.mp hp with rfl | hp
  · exact h _ (.head _)
  · rcases List.mem_cons.mp hp with rfl | hp
    · exact h _ (.tail _ (.head _))
    · rcases List.mem_cons.mp hp with rfl | hp
      · exact hT
      · exact h _ (.tail _ (.tail _ hp))
theorem tents_snoc {ts : List Tup} {t : Tup} {rest rs : Led} (h : ∀ p ∈ tents ts ++ rest, p ∈ rs) : ∀ p ∈ tents (ts ++ [t]) ++ rest, p ∈ (t.1, t.obj) :: rs := fun p hp => by
  rcases List.mem_append.mp hp with hp | hp
  · rw [tents, List.map_append] at hp
    rcases List.mem_append.mp hp with hp | hp
    · exact .tail _ (h p (List.mem_append_left _ hp))
    · rw [List.mem_singleton.mp hp]; exact .head _
  · exact .tail _ (h p (List.mem_append_right _ hp))
theorem news_add {h₀ h : Heap} {L : Addr} {led : Led} {p : Addr × Obj} (N : News h₀ L h led) (hp : p ∈ led) : News h₀ L h (p :: led) := fun q hq => by
  rcases List.mem_cons.mp hq with rfl | hq
  · exact N _ hp
  · exact N q hq
/-- texts under a map: the heap's steps go on the cores -/
theorem get!_map {α β : Type} [Inhabited α] [Inhabited β] (f : α → β) (hf : f default = default) (xs : List α) (i : Nat) : (xs.map f)[i]! = f xs[i]! := by
  by_cases h : i < xs.length
  · simp [h]
  · simp [h, hf]
section
variable {α β : Type} [Inhabited α] [Inhabited β] {f : α → β} {lt : α → α → Bool} {lt' : β → β → Bool}
theorem sdown_map (hf : f default = default) (hl : ∀ x y, lt x y = lt' (f x) (f y)) (new : α) (st : Nat) : ∀ (pos : Nat) (xs : List α), (sdown lt xs new st pos).map f = sdown lt' (xs.map f) (f new) st pos := by
  intro pos
  induction pos using Nat.strongRecOn with
  | ind pos ih =>
    intro xs
    conv => lhs; unfold sdown
    conv => rhs; unfold sdown
    rw [get!_map f hf, ← hl]
    split
    · split
      · rw [ih _ (by lia), List.map_set]
      · rw [List.map_set]
    · rw [List.map_set]
theorem ch_map (hf : f default = default) (hl : ∀ x y, lt x y = lt' (f x) (f y)) (xs : List α) (p : Nat) : ch lt' (xs.map f) p = ch lt xs p := by
  unfold ch
  rw [get!_map f hf, get!_map f hf, ← hl, List.length_map]
theorem bub_map (hf : f default = default) (hl : ∀ x y, lt x y = lt' (f x) (f y)) : ∀ (k : Nat) (xs : List α) (p : Nat), bub lt' k (xs.map f) p = ((bub lt k xs p).1.map f, (bub lt k xs p).2)
  | 0, _, _ => rfl
  | k + 1, xs, p => by
    unfold bub
    rw [List.length_map, ch_map hf hl, get!_map f hf]
    split
    · rw [← List.map_set, bub_map hf hl k]
    · rfl
theorem sup_map (hf : f default = default) (hl : ∀ x y, lt x y = lt' (f x) (f y)) (xs : List α) (p : Nat) : (sup lt xs p).map f = sup lt' (xs.map f) p := by
  unfold sup
  rw [List.length_map, bub_map hf hl, get!_map f hf, sdown_map hf hl, List.map_set]
theorem hfy_map (hf : f default = default) (hl : ∀ x y, lt x y = lt' (f x) (f y)) : ∀ (k : Nat) (xs : List α), (hfy lt k xs).map f = hfy lt' k (xs.map f)
  | 0, _ => rfl
  | k + 1, xs => by
    unfold hfy
    rw [hfy_map hf hl k, sup_map hf hl]
end
theorem hfy_length {κ : Type} [Inhabited κ] {lt : κ → κ → Bool} : ∀ (k : Nat) (xs : List κ), (hfy lt k xs).length = xs.length
  | 0, _ => rfl
  | k + 1, xs => by unfold hfy; rw [hfy_length k, sup_length]
theorem hfy_ok {κ : Type} [Inhabited κ] {O : Ordr κ} {lt : κ → κ → Bool} {rest : Led} : ∀ (k : Nat) (xs : List κ), (∀ y ∈ xs, O.ok rest y) → k ≤ xs.length → ∀ y ∈ hfy lt k xs, O.ok rest y
  | 0, _, h, _ => h
  | k + 1, xs, h, hk => by
    unfold hfy
    exact hfy_ok k _ (sup_ok h (by lia)) (by rw [sup_length]; lia)
theorem core_default : Tup.core default = default := rfl
theorem topStep_hit {lt : Tup → Tup → Bool} {lt' : Core → Core → Bool} (hl : ∀ x y, lt x y = lt' x.core y.core) {cmp : Str → Str → Bool} {d od : Int} {kf : Str → Str} {hs : List Tup} {y : Str} {x : Tup} (hx : x.core = (kf y, od, y)) (hc : cmp (kf y) (hs[0]!).2.1.1 = true) :
    topStep lt' cmp d kf (hs.map Tup.core, od) y = ((sup lt (hs.set 0 x) 0).map Tup.core, od + d) := by
  unfold topStep
  have e : ((hs.map Tup.core)[0]!).1 = (hs[0]!).2.1.1 := by rw [get!_map Tup.core core_default]; rfl
  rw [e, if_pos hc, sup_map core_default hl, List.map_set, hx]
theorem topStep_miss {lt' : Core → Core → Bool} {cmp : Str → Str → Bool} {d od : Int} {kf : Str → Str} {hs : List Tup} {y : Str} (hc : cmp (kf y) (hs[0]!).2.1.1 = false) :
    topStep lt' cmp d kf (hs.map Tup.core, od) y = (hs.map Tup.core, od) := by
  unfold topStep
  have e : ((hs.map Tup.core)[0]!).1 = (hs[0]!).2.1.1 := by rw [get!_map Tup.core core_default]; rfl
  rw [e, if_neg (by rw [hc]; decide)]
/-- the heap of the few least, behind all paths -/
noncomputable def nsAll (kf : Str → Str) (k : Nat) (xs : List (Str × Tok)) : List Core × Int :=
  ((xs.drop k).map (·.1)).foldl (topStep (fun a b => Core.less b a) (fun a b => sless a b) 1 kf) (hfy (fun a b => Core.less b a) (k / 2) ((List.range k).map fun (j : Nat) => (kf (xs.getD j default).1, 0 + (j : Int) * 1, (xs.getD j default).1)), (k : Int))
/-- the heap of the few greatest, behind all paths -/
noncomputable def nlAll (kf : Str → Str) (k : Nat) (xs : List (Str × Tok)) : List Core × Int :=
  ((xs.drop k).map (·.1)).foldl (topStep (fun a b => Core.less a b) (fun a b => sless b a) (-1) kf) (hfy (fun a b => Core.less a b) (k / 2) ((List.range k).map fun (j : Nat) => (kf (xs.getD j default).1, 0 + (j : Int) * (-1), (xs.getD j default).1)), -(k : Int))

-- text: Sort1
/-- a weak order, by its strict test -/
structure Wk {κ : Type} (lt : κ → κ → Bool) : Prop where
  irr : ∀ a, lt a a = false
  asy : ∀ a b, lt a b = true → lt b a = false
  ntr : ∀ a b c, lt b a = false → lt c b = false → lt c a = false
/-- the run of a sort whose questions are answered by ans -/
noncomputable def runL (ans : Nat → Nat → Bool) (n : Nat) {α : Type} : KasT α → Option α
  | .ret a => some a
  | .ask i j k => if i < n ∧ j < n then runL ans n (k (ans i j)) else none
theorem kasWp_runL {α : Type} {cmp : Nat → Nat → (Bool → Shared → Prop) → Shared → Prop} {ans : Nat → Nat → Bool} {n : Nat} {Q : α → Shared → Prop} {s : Shared} (hc : ∀ i j C, i < n → j < n → C (ans i j) s → cmp i j C s) : ∀ (t : KasT α) (a : α), runL ans n t = some a → Q a s → t.kasWp cmp Q s
  | .ret b, a, e, h => by
    have : b = a := Option.some.inj e
    rw [this]; exact h
  | .ask i j k, a, e, h => by
    unfold runL at e
    split at e
    · rename_i hij
      exact hc i j _ hij.1 hij.2 (kasWp_runL hc (k (ans i j)) a e h)
    · cases e
noncomputable abbrev Fs := List (Nat × Nat × Bool)
/- by recursors alone, with numbers made plain ahead of their use: the kernel runs these for every leaf of the tree -/
noncomputable abbrev orB (a b : Bool) : Bool := Bool.rec (motive := fun _ => Bool) b true a
noncomputable abbrev andB (a b : Bool) : Bool := Bool.rec (motive := fun _ => Bool) false b a
noncomputable abbrev iteB {α : Type} (c : Bool) (a b : α) : α := Bool.rec (motive := fun _ => α) b a c
theorem orB_elim {a b : Bool} (h : orB a b = true) : a = true ∨ b = true := by
  cases a with
  | true => exact .inl rfl
  | false => exact .inr h
theorem andB_elim {a b : Bool} (h : andB a b = true) : a = true ∧ b = true := by
  cases a with
  | true => exact ⟨rfl, h⟩
  | false => cases h
noncomputable def plainN {α : Type} (x : Nat) (k : Nat → α) : α := Nat.rec (motive := fun _ => α) (k 0) (fun n _ => k (n + 1)) x
theorem plainN_eq {α : Type} {x : Nat} {k : Nat → α} : plainN x k = k x := by cases x <;> rfl
noncomputable def plainL (l : List Nat) : (List Nat → Bool) → Bool := List.rec (motive := fun _ => (List Nat → Bool) → Bool) (fun k => k []) (fun a _ ih k => plainN a fun a => ih fun r => k (a :: r)) l
theorem plainL_eq : ∀ {l : List Nat} {k : List Nat → Bool}, plainL l k = k l
  | [], _ => rfl
  | a :: r, k => by
    show plainN a (fun a => plainL r fun r => k (a :: r)) = _
    rw [plainN_eq, plainL_eq]
noncomputable def memN (x : Nat) (l : List Nat) : Bool := List.rec (motive := fun _ => Bool) false (fun y _ ih => orB (Nat.beq x y) ih) l
theorem memN_iff {x : Nat} : ∀ {l : List Nat}, memN x l = true → x ∈ l
  | [], h => Bool.noConfusion h
  | y :: r, h => by
    rcases orB_elim (a := Nat.beq x y) (b := memN x r) h with h | h
    · rw [Nat.eq_of_beq_eq_true h]; exact .head _
    · exact .tail _ (memN_iff h)
/-- what one answer adds to those known not less, and those known greater -/
noncomputable def upF (f : Nat × Nat × Bool) (S : List Nat × List Nat) : List Nat × List Nat := iteB f.2.2
  (iteB (memN f.2.1 S.2) S (iteB (orB (memN f.1 S.1) (memN f.1 S.2)) (S.1, f.2.1 :: S.2) S))
  (iteB (memN f.1 S.2) S (iteB (memN f.2.1 S.2) (S.1, f.1 :: S.2) (iteB (memN f.1 S.1) S (iteB (memN f.2.1 S.1) (f.1 :: S.1, S.2) S))))
noncomputable def upAll (l : Fs) (S : List Nat × List Nat) : List Nat × List Nat := List.rec (motive := fun _ => List Nat × List Nat) S (fun f _ ih => Prod.rec (motive := fun _ => List Nat × List Nat) (fun a b => upF f (a, b)) ih) l
noncomputable def upN (fs : Fs) (n : Nat) (S : List Nat × List Nat) : List Nat × List Nat := Nat.rec (motive := fun _ => List Nat × List Nat) S (fun _ ih => Prod.rec (motive := fun _ => List Nat × List Nat) (fun a b => upAll fs (a, b)) ih) n
noncomputable def dirB (a b : Nat) (l : Fs) : Bool := List.rec (motive := fun _ => Bool) false (fun f _ ih => orB (iteB f.2.2 (andB (Nat.beq f.1 a) (Nat.beq f.2.1 b)) (andB (Nat.beq f.2.1 a) (andB (Nat.beq f.1 b) (Nat.blt a b)))) ih) l
noncomputable def impB (m : Nat) (fs : Fs) (a b : Nat) : Bool := orB (dirB a b fs) (Prod.rec (motive := fun _ => Bool) (fun l g => orB (memN b g) (andB (Nat.blt a b) (memN b l))) (upN fs m ([a], [])))
noncomputable def chainB (m : Nat) (fs : Fs) (l : List Nat) : Nat → Bool := List.rec (motive := fun _ => Nat → Bool) (fun _ => true) (fun b _ ih a => andB (impB m fs a b) (ih b)) l
noncomputable def chain0 (m : Nat) (fs : Fs) (l : List Nat) : Bool := List.rec (motive := fun _ => Bool) true (fun a r _ => chainB m fs r a) l
noncomputable def wrongF (m : Nat) (fs : Fs) (l : List Nat) : Bool := List.rec (motive := fun _ => Bool) false (fun a _ ih => orB (memN a (upN fs m ([a], [])).2) ih) l
noncomputable def allN (n : Nat) (l : List Nat) : Bool := List.rec (motive := fun _ => Bool) true (fun a _ ih => andB (Nat.blt a n) ih) l
noncomputable def hasN (l : List Nat) (n : Nat) : Bool := Nat.rec (motive := fun _ => Bool) true (fun k ih => andB (memN k l) ih) n
noncomputable def okLeafM (m n : Nat) (fs : Fs) (p : List Nat) : Bool := andB (chain0 m fs p) (andB (allN n p) (hasN p n))
noncomputable def okLeaf (n : Nat) (fs : Fs) (p : List Nat) : Bool := orB (okLeafM 0 n fs p) (orB (wrongF 1 fs (List.range n)) (orB (okLeafM 2 n fs p) (orB (wrongF 2 fs (List.range n)) (orB (okLeafM 6 n fs p) (wrongF 6 fs (List.range n))))))
noncomputable def okT (n : Nat) : Fs → KasT (Array Nat) → Bool
  | fs, .ret p => plainL p.toList fun l => okLeaf n fs l
  | fs, .ask i j k => plainN i fun i => plainN j fun j => andB (andB (Nat.blt i n) (Nat.blt j n)) (andB (okT n ((i, j, true) :: fs) (k true)) (okT n ((i, j, false) :: fs) (k false)))
theorem okT2 : okT 2 [] (kas_sort 2) = true := by decide +kernel
theorem okT3 : okT 3 [] (kas_sort 3) = true := by decide +kernel
theorem okT4 : okT 4 [] (kas_sort 4) = true := by decide +kernel
theorem okT5 : okT 5 [] (kas_sort 5) = true := by decide +kernel
theorem okT6 : okT 6 [] (kas_sort 6) = true := by decide +kernel
section
variable {lt : Nat → Nat → Bool}
noncomputable def FHold (lt : Nat → Nat → Bool) (fs : Fs) : Prop := ∀ f ∈ fs, lt f.1 f.2.1 = f.2.2
noncomputable def SHold (lt : Nat → Nat → Bool) (a : Nat) (S : List Nat × List Nat) : Prop := (∀ x ∈ S.1, lt x a = false) ∧ ∀ x ∈ S.2, lt a x = true
theorem wk_mix (W : Wk lt) {a b c : Nat} (h1 : lt b a = false) (h2 : lt b c = true) : lt a c = true := by
  cases h : lt a c with
  | true => rfl
  | false => rw [W.ntr _ _ _ h h1] at h2; exact h2
theorem wk_mix2 (W : Wk lt) {a b c : Nat} (h1 : lt a b = true) (h2 : lt c b = false) : lt a c = true := by
  cases h : lt a c with
  | true => rfl
  | false => rw [W.ntr _ _ _ h2 h] at h1; exact h1
theorem upF_hold (W : Wk lt) {a : Nat} {S : List Nat × List Nat} {f : Nat × Nat × Bool} (hf : lt f.1 f.2.1 = f.2.2) (h : SHold lt a S) : SHold lt a (upF f S) := by
  obtain ⟨i, j, b⟩ := f
  dsimp only at hf
  cases b with
  | true =>
    show SHold lt a (iteB (memN j S.2) S (iteB (orB (memN i S.1) (memN i S.2)) (S.1, j :: S.2) S))
    cases memN j S.2 with
    | true => exact h
    | false =>
      cases hm : orB (memN i S.1) (memN i S.2) with
      | false => exact h
      | true =>
        refine ⟨h.1, List.forall_mem_cons.mpr ⟨?_, h.2⟩⟩
        rcases orB_elim hm with hm | hm
        · exact wk_mix W (h.1 _ (memN_iff hm)) hf
        · exact wk_mix2 W (h.2 _ (memN_iff hm)) (W.asy _ _ hf)
  | false =>
    show SHold lt a (iteB (memN i S.2) S (iteB (memN j S.2) (S.1, i :: S.2) (iteB (memN i S.1) S (iteB (memN j S.1) (i :: S.1, S.2) S))))
    cases memN i S.2 with
    | true => exact h
    | false =>
      cases hm : memN j S.2 with
      | true => exact ⟨h.1, List.forall_mem_cons.mpr ⟨wk_mix2 W (h.2 _ (memN_iff hm)) hf, h.2⟩⟩
      | false =>
        cases memN i S.1 with
        | true => exact h
        | false =>
          cases hm : memN j S.1 with
          | false => exact h
          | true => exact ⟨List.forall_mem_cons.mpr ⟨W.ntr _ _ _ (h.1 _ (memN_iff hm)) hf, h.1⟩, h.2⟩
theorem upAll_hold (W : Wk lt) {a : Nat} {S : List Nat × List Nat} : ∀ {fs : Fs}, FHold lt fs → SHold lt a S → SHold lt a (upAll fs S)
  | [], _, h => h
  | f :: r, hf, h => show SHold lt a (upF f (upAll r S)) from upF_hold W (hf f (.head _)) (upAll_hold W (fun x hx => hf x (.tail _ hx)) h)
theorem upN_hold (W : Wk lt) {a : Nat} {fs : Fs} (hf : FHold lt fs) : ∀ k, SHold lt a (upN fs k ([a], []))
  | 0 => ⟨fun x hx => by rw [List.mem_singleton.mp hx]; exact W.irr _, List.forall_mem_nil _⟩
  | k + 1 => show SHold lt a (upAll fs (upN fs k ([a], []))) from upAll_hold W hf (upN_hold W hf k)
/-- a stands ahead of b -/
noncomputable def BefL (lt : Nat → Nat → Bool) (a b : Nat) : Prop := lt a b = true ∨ (lt b a = false ∧ a < b)
theorem dirB_hold {a b : Nat} : ∀ {fs : Fs}, FHold lt fs → dirB a b fs = true → BefL lt a b
  | [], _, h => Bool.noConfusion h
  | ⟨i, j, c⟩ :: r, hf, h => by
    rcases orB_elim (a := iteB c (andB (Nat.beq i a) (Nat.beq j b)) (andB (Nat.beq j a) (andB (Nat.beq i b) (Nat.blt a b)))) (b := dirB a b r) h with h | h
    · have h0 : lt i j = c := hf _ (.head _)
      cases c with
      | true =>
        have h := andB_elim h
        rw [Nat.eq_of_beq_eq_true h.1, Nat.eq_of_beq_eq_true h.2] at h0
        exact .inl h0
      | false =>
        have h1 := andB_elim h
        have h2 := andB_elim h1.2
        rw [Nat.eq_of_beq_eq_true h1.1, Nat.eq_of_beq_eq_true h2.1] at h0
        exact .inr ⟨h0, Nat.blt_eq.mp h2.2⟩
    · exact dirB_hold (fun x hx => hf x (.tail _ hx)) h
theorem impB_hold (W : Wk lt) {m a b : Nat} {fs : Fs} (hf : FHold lt fs) (h : impB m fs a b = true) : BefL lt a b := by
  rcases orB_elim (a := dirB a b fs) (b := orB (memN b (upN fs m ([a], [])).2) (andB (Nat.blt a b) (memN b (upN fs m ([a], [])).1))) h with h | h
  · exact dirB_hold hf h
  · have hs := upN_hold W (a := a) hf m
    rcases orB_elim h with h | h
    · exact .inl (hs.2 _ (memN_iff h))
    · have h := andB_elim h
      exact .inr ⟨hs.1 _ (memN_iff h.2), Nat.blt_eq.mp h.1⟩
theorem befL_tr (W : Wk lt) {a b c : Nat} (h1 : BefL lt a b) (h2 : BefL lt b c) : BefL lt a c := by
  rcases h1 with h1 | h1 <;> rcases h2 with h2 | h2
  · exact .inl (wk_mix2 W h1 (W.asy _ _ h2))
  · exact .inl (wk_mix2 W h1 h2.1)
  · exact .inl (wk_mix W h1.1 h2)
  · exact .inr ⟨W.ntr _ _ _ h1.1 h2.1, Nat.lt_trans h1.2 h2.2⟩
theorem chainB_hold (W : Wk lt) {m : Nat} {fs : Fs} (hf : FHold lt fs) : ∀ {l : List Nat} {a : Nat}, chainB m fs l a = true → (a :: l).Pairwise (BefL lt)
  | [], a, _ => List.pairwise_singleton _ _
  | b :: r, a, h => by
    have h := andB_elim (a := impB m fs a b) (b := chainB m fs r b) h
    have ih := chainB_hold W hf h.2
    have h1 := impB_hold W hf h.1
    refine List.pairwise_cons.mpr ⟨fun x hx => ?_, ih⟩
    rcases List.mem_cons.mp hx with rfl | hx
    · exact h1
    · exact befL_tr W h1 (List.rel_of_pairwise_cons ih hx)
theorem allN_iff {n : Nat} : ∀ {l : List Nat}, allN n l = true → ∀ x ∈ l, x < n
  | [], _ => List.forall_mem_nil _
  | a :: r, h => by
    have h := andB_elim (a := Nat.blt a n) (b := allN n r) h
    exact List.forall_mem_cons.mpr ⟨Nat.blt_eq.mp h.1, allN_iff h.2⟩
theorem hasN_iff {l : List Nat} : ∀ {n : Nat}, hasN l n = true → ∀ x, x < n → x ∈ l
  | 0, _, x, hx => absurd hx (Nat.not_lt_zero _)
  | k + 1, h, x, hx => by
    have h := andB_elim (a := memN k l) (b := hasN l k) h
    rcases Nat.lt_succ_iff_lt_or_eq.mp hx with h2 | rfl
    · exact hasN_iff h.2 x h2
    · exact memN_iff h.1
theorem wrongF_hold (W : Wk lt) {m : Nat} {fs : Fs} (hf : FHold lt fs) : ∀ {l : List Nat}, wrongF m fs l = true → False
  | [], h => Bool.noConfusion h
  | a :: r, h => by
    rcases orB_elim (a := memN a (upN fs m ([a], [])).2) (b := wrongF m fs r) h with h | h
    · have := (upN_hold W (a := a) hf m).2 _ (memN_iff h)
      rw [W.irr] at this; cases this
    · exact wrongF_hold W hf h
theorem okT_hold (W : Wk lt) {n : Nat} : ∀ (t : KasT (Array Nat)) (fs : Fs), FHold lt fs → okT n fs t = true → ∃ p, runL lt n t = some p ∧ p.toList.Pairwise (BefL lt) ∧ ∀ x, x ∈ p.toList ↔ x < n
  | .ret p, fs, hf, h => by
    unfold okT at h
    rw [plainL_eq] at h
    have key : ∀ m, okLeafM m n fs p.toList = true → ∃ p', runL lt n (.ret p) = some p' ∧ p'.toList.Pairwise (BefL lt) ∧ ∀ x, x ∈ p'.toList ↔ x < n := fun m h => by
      have h := andB_elim h
      have h2 := andB_elim h.2
      refine ⟨p, rfl, ?_, fun x => ⟨allN_iff h2.1 x, hasN_iff h2.2 x⟩⟩
      have h1 := h.1
      generalize p.toList = l at h1
      cases l with
      | nil => exact List.Pairwise.nil
      | cons a l => exact chainB_hold W hf h1
    unfold okLeaf at h
    rcases orB_elim h with h | h
    · exact key 0 h
    rcases orB_elim h with h | h
    · exact (wrongF_hold W hf h).elim
    rcases orB_elim h with h | h
    · exact key 2 h
    rcases orB_elim h with h | h
    · exact (wrongF_hold W hf h).elim
    rcases orB_elim h with h | h
    · exact key 6 h
    · exact (wrongF_hold W hf h).elim
  | .ask i j k, fs, hf, h => by
    unfold okT at h
    rw [plainN_eq, plainN_eq] at h
    have h := andB_elim h
    have h1 := andB_elim h.1
    have h2 := andB_elim h.2
    unfold runL
    rw [if_pos ⟨Nat.blt_eq.mp h1.1, Nat.blt_eq.mp h1.2⟩]
    cases hl : lt i j with
    | true => exact okT_hold W (k true) _ (List.forall_mem_cons.mpr ⟨hl, hf⟩) h2.1
    | false => exact okT_hold W (k false) _ (List.forall_mem_cons.mpr ⟨hl, hf⟩) h2.2
end

-- text: Sort2
section
variable {κ : Type} [Inhabited κ] {lt : κ → κ → Bool} {xs : List κ}
theorem sort_plain (h2 : 2 ≤ xs.length) (h6 : xs.length ≤ 6) (W : Wk lt) (tot : ∀ i j, i < xs.length → j < xs.length → i ≠ j → lt (xs.getD i default) (xs.getD j default) = true ∨ lt (xs.getD j default) (xs.getD i default) = true) :
    ∃ p : Array Nat, runL (fun i j => lt (xs.getD i default) (xs.getD j default)) xs.length (kas_sort xs.length) = some p ∧ (∀ i ∈ p.toList, i < xs.length) ∧ (p.toList.map fun i => xs.getD i default).Perm xs ∧ (p.toList.map fun i => xs.getD i default).Pairwise (fun a b => lt a b = true) := by
  have W2 : Wk (fun i j => lt (xs.getD i default) (xs.getD j default)) := ⟨fun a => W.irr _, fun a b => W.asy _ _, fun a b c => W.ntr _ _ _⟩
  have key : okT xs.length [] (kas_sort xs.length) = true := by
    have : xs.length = 2 ∨ xs.length = 3 ∨ xs.length = 4 ∨ xs.length = 5 ∨ xs.length = 6 := by omega
    rcases this with e | e | e | e | e <;> rw [e]
    · exact okT2
    · exact okT3
    · exact okT4
    · exact okT5
    · exact okT6
  obtain ⟨p, h1, hs, hm⟩ := okT_hold W2 _ [] (List.forall_mem_nil _) key
  have hpw : p.toList.Pairwise fun i j => lt (xs.getD i default) (xs.getD j default) = true := hs.imp_of_mem fun {a b} ha hb h => by
    rcases h with h | ⟨h, hab⟩
    · exact h
    · rcases tot a b ((hm a).mp ha) ((hm b).mp hb) (Nat.ne_of_lt hab) with h4 | h4
      · exact h4
      · have h : lt (xs.getD b default) (xs.getD a default) = false := h
        rw [h] at h4; exact Bool.noConfusion h4
  have hnd : p.toList.Nodup := hpw.imp fun {a b} h e => by rw [e, W.irr] at h; exact Bool.noConfusion h
  have hperm : p.toList.Perm (List.range xs.length) := (List.perm_ext_iff_of_nodup hnd List.nodup_range).mpr fun j => by rw [hm j, List.mem_range]
  have hid : (List.range xs.length).map (fun i => xs.getD i default) = xs := by
    apply List.ext_getElem
    · simp
    · intro i h1 h2; simp [h2]
  refine ⟨p, h1, fun i hi => (hm i).mp hi, ?_, List.pairwise_map.mpr hpw⟩
  have := hperm.map (fun i => xs.getD i default)
  rw [hid] at this
  exact this
end

-- text: Sort3
section
variable {prog : Program} {w : World} {A : Around} {E : Value → Shared → Prop} {s : Shared}
theorem tup_keyLt {x y : Tup} {Q : Bool → Shared → Prop} (hx : s.heap.get? x.1 = some x.obj) (hy : s.heap.get? y.1 = some y.obj) (h : Q (x.less y) s) : wpAny (model prog w) A (keyLt' (tuples' true) (.ref x.1) (.ref y.1)) Q E s := by
  refine kat_lt hx rfl hy rfl ?_
  obtain ⟨a, ⟨k, tk⟩, ⟨i, ti⟩, e, te⟩ := x
  obtain ⟨a', ⟨k', tk'⟩, ⟨i', ti'⟩, e', te'⟩ := y
  show KatLex prog w A true _ Q [(.str k tk, .str k' tk'), (.int i ti, .int i' ti'), (.str e te, .str e' te')] 0 s
  refine kat_cons (wpAny_eqBool_str ?_)
  by_cases e1 : k = k'
  · rw [decide_eq_true e1]
    refine kat_yes (kat_cons (wpAny_eqBool_int ?_))
    by_cases e2 : i = i'
    · have b2 : (i == i') = true := by simpa using e2
      rw [b2]
      refine kat_yes (kat_cons (wpAny_eqBool_str ?_))
      by_cases e3 : e = e'
      · rw [decide_eq_true e3]
        refine kat_yes (kat_nil ?_)
        simp only [Tup.less, e1, e2, e3, if_true] at h
        exact h
      · rw [decide_eq_false e3]
        simp only [Tup.less, e1, e2, e3, if_true, if_false] at h
        exact kat_no (kat_one _ _ (lt_str h))
    · have b2 : (i == i') = false := by simpa using e2
      rw [b2]
      simp only [Tup.less, e1, e2, if_true, if_false] at h
      exact kat_no (kat_one _ _ (lt_int h))
  · rw [decide_eq_false e1]
    simp only [Tup.less, e1, if_false] at h
    exact kat_no (oneLt_str h)
theorem tups_kat {h : Heap} : ∀ (ts : List Tup), (∀ t ∈ ts, h.get? t.1 = some t.obj) → KatTups h (ts.map tupO.val) (ts.map fun t => .str t.2.1.1 t.2.1.2)
  | [], _ => KatTups.nil
  | t :: r, hh => KatTups.cons (hh t (.head _)) rfl rfl rfl (tups_kat r fun x hx => hh x (.tail _ hx))
theorem tups_kind {ts : List Tup} {Q : SortKind → Shared → Prop} (hne : 0 < ts.length) (ht : ∀ t ∈ ts, s.heap.get? t.1 = some t.obj) (h : Q (tuples' true) s) : wpAny (model prog w) A (keyKind' (ts.map tupO.val).toArray) Q E s := by
  refine kat_kind (T := .type "str") (tups_kat ts ht) (by simpa using hne) (fun v hv => ?_) rfl h
  obtain ⟨t, _, rfl⟩ := List.mem_map.mp hv
  exact Looks.of_pure rfl
/-- the order of triples is a strict one -/
theorem sless_irr (a : Str) : sless a a = false := decide_eq_false (fun h => List.lt_irrefl _ h)
theorem sless_tr {a b c : Str} (h1 : sless a b = true) (h2 : sless b c = true) : sless a c = true := decide_eq_true (List.lt_trans (of_decide_eq_true h1) (of_decide_eq_true h2))
theorem str_ext {a b : Str} (h : a.cps.toList = b.cps.toList) : a = b := by
  cases a; cases b
  simp only [Array.toList_inj] at h
  simp [h]
theorem sless_tot {a b : Str} (h : a ≠ b) : sless a b = true ∨ sless b a = true := by
  by_cases h1 : a.cps.toList < b.cps.toList
  · exact .inl (decide_eq_true h1)
  · by_cases h2 : b.cps.toList < a.cps.toList
    · exact .inr (decide_eq_true h2)
    · exact absurd (str_ext (List.le_antisymm (List.not_lt.mp h2) (List.not_lt.mp h1))) h
theorem core_irr (x : Core) : Core.less x x = false := by simp [Core.less]
theorem core_tr {x y z : Core} (h1 : Core.less x y = true) (h2 : Core.less y z = true) : Core.less x z = true := by
  obtain ⟨k, i, e⟩ := x
  obtain ⟨k', i', e'⟩ := y
  obtain ⟨k'', i'', e''⟩ := z
  simp only [Core.less] at *
  by_cases a1 : k = k'
  · subst a1
    by_cases a2 : k = k''
    · subst a2
      simp only [if_true] at *
      by_cases b1 : i = i'
      · subst b1
        by_cases b2 : i = i''
        · subst b2
          simp only [if_true] at *
          by_cases c1 : e = e'
          · simp [c1] at h1
          · by_cases c2 : e' = e''
            · simp [c2] at h2
            · simp only [c1, c2, if_false] at h1 h2
              have h3 := sless_tr h1 h2
              by_cases c3 : e = e''
              · subst c3; rw [sless_irr] at h3; cases h3
              · simp [c3, h3]
        · simp only [b2, if_true, if_false] at *
          exact h2
      · by_cases b2 : i' = i''
        · subst b2
          simp only [b1, if_true, if_false] at *
          exact h1
        · simp only [b1, b2, if_false] at h1 h2
          have h3 := of_decide_eq_true h1
          have h4 := of_decide_eq_true h2
          have h5 : i ≠ i'' := by lia
          simp only [h5, if_false]
          exact decide_eq_true (by lia)
    · simp only [a2, if_true, if_false] at *
      exact h2
  · by_cases a2 : k' = k''
    · subst a2
      simp only [a1, if_true, if_false] at *
      exact h1
    · simp only [a1, a2, if_false] at h1 h2
      have h3 := sless_tr h1 h2
      by_cases a3 : k = k''
      · subst a3; rw [sless_irr] at h3; cases h3
      · simp only [a3, if_false]; exact h3
theorem core_tot {x y : Core} (h : x ≠ y) : Core.less x y = true ∨ Core.less y x = true := by
  obtain ⟨k, i, e⟩ := x
  obtain ⟨k', i', e'⟩ := y
  simp only [Core.less]
  by_cases a1 : k = k'
  · subst a1
    by_cases b1 : i = i'
    · subst b1
      have c1 : e ≠ e' := fun q => h (by rw [q])
      simp only [if_true, c1, Ne.symm c1, if_false]
      exact sless_tot c1
    · have b1' : i' ≠ i := fun q => b1 q.symm
      simp only [if_true, b1, b1', if_false]
      rcases Int.lt_or_gt_of_ne b1 with q | q
      · exact .inl (decide_eq_true q)
      · exact .inr (decide_eq_true q)
  · have a1' : k' ≠ k := fun q => a1 q.symm
    simp only [a1, a1', if_false]
    exact sless_tot a1
end
theorem core_asy {x y : Core} (h : Core.less x y = true) : Core.less y x = false := Bool.eq_false_iff.mpr fun h2 => by
  have h3 := core_tr h h2
  rw [core_irr] at h3; exact Bool.noConfusion h3
theorem core_ntr {a b c : Core} (h1 : Core.less b a = false) (h2 : Core.less c b = false) : Core.less c a = false := by
  cases h3 : Core.less c a with
  | false => rfl
  | true =>
    by_cases e : a = b
    · subst e; rw [h3] at h2; exact h2
    · rcases core_tot e with h4 | h4
      · rw [core_tr h3 h4] at h2; exact h2
      · rw [h4] at h1; exact h1
theorem elimS {P : List Tup × (Str × Tok) × (Int × Tok) × Led → Prop} (h : ∀ a b c d e f, P (a, (b, c), (d, e), f)) : ∀ x, P x := fun ⟨a, (b, c), (d, e), f⟩ => h a b c d e f
theorem elimT {P : Tup → Prop} (h : ∀ a b c d e f g, P (a, (b, c), (d, e), (f, g))) : ∀ x, P x := fun ⟨a, (b, c), (d, e), (f, g)⟩ => h a b c d e f g
theorem wk_tup : Wk tupO.lt := ⟨fun x => core_irr x.core, fun a b h => core_asy (x := a.core) (y := b.core) h, fun a b c h1 h2 => core_ntr (a := a.core) (b := b.core) (c := c.core) h1 h2⟩
section
variable {prog : Program} {w : World} {A : Around} {E : Value → Shared → Prop} {s : Shared} {h₀ : Heap} {L D : Addr} {m : Str → Option Value} {rest : Led} {n : Nat} {ts : List Tup}
theorem getD_tups {i : Nat} (hi : i < ts.length) : (ts.map tupO.val).getD i .none = .ref (ts.getD i default).1 := by
  simp [hi, tupO]
theorem getD_tmem {i : Nat} (hi : i < ts.length) : ts.getD i default ∈ ts := by simp [hi]
/-- the questions of a sort of triples -/
theorem tups_ask {G : Array Nat → Shared → Prop} (h2 : 2 ≤ ts.length) (h6 : ts.length ≤ 6) (hd : (ts.map Tup.core).Nodup) (ht : ∀ t ∈ ts, s.heap.get? t.1 = some t.obj)
    (h : ∀ (p : Array Nat) (ts' : List Tup), (p.toList.map fun i => (ts.map tupO.val).getD i .none) = ts'.map tupO.val → ts'.Perm ts → ts'.Pairwise (fun a b => Core.less a.core b.core = true) → G p s) :
    (kas_sort (ts.map tupO.val).length).kasWp (kas_ask prog w A (tuples' true) (ts.map tupO.val)) G s := by
  obtain ⟨p, h1, hin, hp, hs⟩ := sort_plain (lt := tupO.lt) (xs := ts) h2 h6 wk_tup (fun i j hi hj hij => by
    have ei : ts.getD i default = ts[i] := by simp [hi]
    have ej : ts.getD j default = ts[j] := by simp [hj]
    rw [ei, ej]
    refine core_tot (x := ts[i].core) (y := ts[j].core) fun e => hij ?_
    have := (List.nodup_iff_pairwise_ne.mp hd)
    rw [List.pairwise_map, List.pairwise_iff_getElem] at this
    rcases Nat.lt_trichotomy i j with q | q | q
    · exact absurd e (this i j hi hj q)
    · exact q
    · exact absurd e.symm (this j i hj hi q))
  rw [List.length_map]
  refine kasWp_runL (n := ts.length) (fun i j C hi hj hC => ?_) _ p h1 (h p _ ?_ hp hs)
  · show wpAny _ _ (keyLt' (tuples' true) ((ts.map tupO.val).getD i .none) ((ts.map tupO.val).getD j .none)) _ _ _
    rw [getD_tups hi, getD_tups hj]
    exact tup_keyLt (ht _ (getD_tmem hi)) (ht _ (getD_tmem hj)) hC
  · rw [List.map_map]
    exact List.map_congr_left fun i hi => by
      rw [getD_tups (hin i hi)]; rfl
theorem tsort_led {Q : Value → Shared → Prop} (F : Fr h₀ L s.heap m) (N : News h₀ L s.heap ((D, listOf (ts.map tupO.val).toArray n) :: rest)) (hrest : ∀ p ∈ rest, p.1 ≠ D) (hok : ∀ t ∈ ts, tupO.ok rest t) (h2 : 2 ≤ ts.length) (h6 : ts.length ≤ 6) (hd : (ts.map Tup.core).Nodup)
    (h : ∀ (ts' : List Tup) (c : Nat) (h' : Heap), ts'.Perm ts → ts'.Pairwise (fun a b => Core.less a.core b.core = true) → Fr h₀ L h' m → News h₀ L h' ((D, listOf (ts'.map tupO.val).toArray c) :: rest) → Q .none { s with heap := h' }) :
    wpAny (model prog w) A (call (.builtin "list.sort") [.ref D]) Q E s := by
  refine kat_lsort (vs := ts.map tupO.val) F N (UpdF.head hrest) (by simp) (by simpa using h2) (by simp; lia) fun e1 h' F' N' => ?_
  have ht : ∀ t ∈ ts, h'.get? t.1 = some t.obj := fun t ht => (N' _ (.tail _ (hok t ht))).1
  refine tups_kind (by lia) ht ?_
  refine tups_ask h2 h6 hd ht fun p ts' e hp hs => ?_
  rw [e]
  exact KasFin.intro F' N' (UpdF.head hrest) fun h'' c F'' N'' => h ts' c h'' hp hs F'' N''
theorem tsort_rev {Q : Value → Shared → Prop} (F : Fr h₀ L s.heap m) (N : News h₀ L s.heap ((D, listOf (ts.map tupO.val).toArray n) :: rest)) (hrest : ∀ p ∈ rest, p.1 ≠ D) (hok : ∀ t ∈ ts, tupO.ok rest t) (h2 : 2 ≤ ts.length) (h6 : ts.length ≤ 6) (hd : (ts.map Tup.core).Nodup)
    (h : ∀ (ts' : List Tup) (c : Nat) (h' : Heap), ts'.Perm ts → ts'.Pairwise (fun a b => Core.less b.core a.core = true) → Fr h₀ L h' m → News h₀ L h' ((D, listOf (ts'.map tupO.val).toArray c) :: rest) → Q .none { s with heap := h' }) :
    wpAny (model prog w) A (call (.builtin "list.sort") [.ref D] [(Str.ofString "reverse", .bool true)]) Q E s := by
  have nz := N _ (.head _)
  have hN : News h₀ L s.heap rest := fun p hp => N p (.tail _ hp)
  generalize hvs : ts.map tupO.val = vs at *
  have hvl : vs.length = ts.length := by rw [← hvs, List.length_map]
  have ho : s.heap.get? D = some (seqObj "list" vs.toArray n) := nz.1
  refine wpAny_call_entry_kw slot_list_sort ⟨_, nz.1, rfl⟩ entry_list_sort ?_ (args_list_sort_rev _ _)
  rw [list_sort_rev]
  have s1 := Heap.SameBut.update s.heap D (Obj.mapSeq fun _ => (#[] : Array Value))
  obtain ⟨e1, ho1⟩ : ∃ e1, (s.heap.update D (Obj.mapSeq fun _ => (#[] : Array Value))).get? D = some (seqObj "list" #[] e1) := ⟨_, get?_update_seq ho fun _ => #[]⟩
  have F3 : Fr h₀ L (((s.heap.update D (Obj.mapSeq fun _ => (#[] : Array Value))).push (seqObj "tuple" vs.toArray 0)).push (seqObj "list" #[] 0)) m := ((kas_fr F s1 nz.2.1 nz.2.2).push _).push _
  have N2 : News h₀ L (((s.heap.update D (Obj.mapSeq fun _ => (#[] : Array Value))).push (seqObj "tuple" vs.toArray 0)).push (seqObj "list" #[] 0)) rest :=
    (kas_news hN s1 hrest).grown fun b x e => Heap.get?_push_of_some _ (Heap.get?_push_of_some _ e)
  have ho3 : (((s.heap.update D (Obj.mapSeq fun _ => (#[] : Array Value))).push (seqObj "tuple" vs.toArray 0)).push (seqObj "list" #[] 0)).get? D = some (seqObj "list" #[] e1) := Heap.get?_push_of_some _ (Heap.get?_push_of_some _ ho1)
  refine wpAny_bind (listItems_at ho rfl ?_)
  refine wpAny_bind (listUpdate_at ho rfl ?_ (by rw [List.size_toArray, sizeLine_eq]; lia) (Nat.zero_le _))
  refine wpAny_bind (seqEpoch_at ho1 rfl ?_)
  refine wpAny_bind (wpAny_newTuple ?_ (by show vs.length ≤ _; rw [sizeLine_eq]; lia))
  refine wpAny_bind (wpAny_newList ?_ (Nat.zero_le _))
  refine wpAny_holding ?_
  generalize hH : ((s.heap.update D (Obj.mapSeq fun _ => (#[] : Array Value))).push (seqObj "tuple" vs.toArray 0)).push (seqObj "list" #[] 0) = H at *
  show wpAny (model prog w) A.in1 _ _ E { s with heap := H }
  simp only [if_true]
  refine wpAny_bind (wpAny_rule ?_)
  have hn2 : ¬ vs.toArray.size < 2 := by rw [List.size_toArray]; lia
  rw [if_neg hn2, if_neg hn2]
  have ht : ∀ t ∈ ts, H.get? t.1 = some t.obj := fun t ht => (N2 _ (hok t ht)).1
  rw [← hvs]
  refine wpAny_bind (tups_kind (s := { s with heap := H }) (by lia) ht ?_)
  have hz := kat_pairs (ks := ts.map tupO.val) (vs := ts.map tupO.val) true rfl
  rw [if_pos rfl] at hz
  rw [hz]
  have hrv : katRev true (ts.map tupO.val) = ts.reverse.map tupO.val := by unfold katRev; rw [if_pos rfl, List.map_reverse]
  rw [hrv]
  refine wpAny_bind (wpAny_mono (kat_run (E := E) (s := { s with heap := H }) (Q := fun st' s' => ∃ (p : Array Nat) (ts' : List Tup), p.size = ts.length ∧ arrOf st' = p.map (kas_item ((ts.reverse.map tupO.val).toArray.zip (ts.reverse.map tupO.val).toArray)) ∧ failedOf st' = none ∧ (p.toList.map fun i => (ts.reverse.map tupO.val).getD i .none) = ts'.map tupO.val ∧ ts'.Perm ts.reverse ∧ ts'.Pairwise (fun a b => Core.less a.core b.core = true) ∧ s' = { s with heap := H })
    (ks := ts.reverse.map tupO.val) (vs := ts.reverse.map tupO.val) (κ := tuples' true) (G := fun p s' => ∃ ts' : List Tup, (p.toList.map fun i => (ts.reverse.map tupO.val).getD i .none) = ts'.map tupO.val ∧ ts'.Perm ts.reverse ∧ ts'.Pairwise (fun a b => Core.less a.core b.core = true) ∧ s' = { s with heap := H }) rfl (by simpa using h2) (by simp; lia) ?_ ?_) ?_ fun _ _ e => e)
  · intro p st' s' a1 a2 a3 hG32
    refine gen_P fun R9 hR9 => ?_
    obtain ⟨ts', b1, b2, b3, b4⟩ := hG32
    refine of_P hR9 ?_
    clear hR9 R9
    exact ⟨p, ts', by simpa using a1, a2, a3, b1, b2, b3, b4⟩
  · exact tups_ask (ts := ts.reverse) (s := { s with heap := H }) (by simpa using h2) (by simpa using h6) (by rw [List.map_reverse]; exact (List.reverse_perm _).nodup_iff.mpr hd) (fun t hm => ht t (List.mem_reverse.mp hm)) fun p ts' e hp hs => ⟨ts', e, hp, hs, rfl⟩
  · rintro ⟨⟨⟩, st'⟩ s' ⟨p, ts', hp, har, hf, e, hperm, hsort, rfl⟩
    dsimp only
    have hout : (arrOf st').map (·.2) = (ts'.map tupO.val).toArray := by rw [kat_snds rfl har, e]
    have hsz : ts'.length = ts.length := by rw [hperm.length_eq, List.length_reverse]
    rw [hout]
    have hrr : (ts'.map tupO.val).toArray.reverse = (ts'.reverse.map tupO.val).toArray := by rw [List.map_reverse, List.reverse_toArray]
    rw [hrr]
    have s2 := Heap.SameBut.update H D (Obj.mapSeq fun _ => (ts'.reverse.map tupO.val).toArray)
    obtain ⟨c2, hc2⟩ : ∃ c2, (H.update D (Obj.mapSeq fun _ => (ts'.reverse.map tupO.val).toArray)).get? D = some (seqObj "list" (ts'.reverse.map tupO.val).toArray c2) := ⟨_, get?_update_seq ho3 fun _ => (ts'.reverse.map tupO.val).toArray⟩
    refine wpAny_bind (seqEpoch_at ho3 rfl ?_)
    refine wpAny_bind (listUpdate_at ho3 rfl ?_ (Nat.zero_le _) (by rw [List.size_toArray, sizeLine_eq]; simp; lia))
    rw [hf]
    simp only [bne_self_eq_false, Bool.false_eq_true, if_false]
    refine wpAny_pure ⟨_, rfl, h ts'.reverse c2 _ ((List.reverse_perm _).trans (hperm.trans (List.reverse_perm _))) (List.pairwise_reverse.mpr hsort) (kas_fr F3 s2 nz.2.1 nz.2.2) fun q hq => ?_⟩
    rcases List.mem_cons.mp hq with rfl | hq
    · exact ⟨hc2, nz.2⟩
    · have z := N2 q hq
      exact ⟨s2.extBut _ _ (hrest q hq) z.1, z.2⟩
end
theorem callWith_kw0 {M : Model} {A : Around} {E : Value → Shared → Prop} {s : Shared} {env : Env} {pos kp : Pos} {id : String} {first : List Value} {name : Str} {value : PySem.Expr} {Q : Value → Shared → Prop}
    (h : wpAny M A (eval value env) (fun v s₂ => wpAny M A (call (.builtin id) first [(name, v)]) Q E s₂) E s) :
    wpAny M A (callWith pos (.builtin id) first (backTo pos (starEach [] env)) (backToKw pos (keywordEach [⟨some name, value, kp⟩] env))) Q E s := by
  refine callWith_builtin_kwB rfl rfl (evalArgs_kw2_nil rfl (kws_cons (wpAny_mono h (fun v s₁ h₁ => kws_nil ?_) fun _ _ e => e)))
  rw [List.append_nil]
  exact h₁

-- text: Try1
theorem lookup_it_len : typeLookup (.type "list_iterator") "__len__" = pure none := by rw [typeLookup_type, builtinLookup_eq_fast]; kernel_rfl
theorem name_it : typeName (.type "list_iterator") = pure "list_iterator" := by unfold typeName; rw [find?_eq_fast]; kernel_rfl
section
variable {prog : Program} {w : World} {A : Around} {E : Value → Shared → Prop} {s : Shared}
theorem len_it_raises {I l : Addr} {i : Nat} {Q : Value → Shared → Prop} (hh : A.handled = none) (hit : s.heap.IsListIter I l i) (h : ∀ h' tk e, Heap.NewExc s.heap h' e "TypeError" → E (.ref e) { s with heap := h', toks := tk }) :
    wpAny (model prog w) A (call (.builtin "len") [.ref I]) Q E s := by
  refine Calls.call_function_entry (by decide +kernel) (by decide +kernel) entry_len (args_len1 _) ?_
  unfold Builtin.«len»
  refine wpAny_bind (m := oneArg "len" _) (wpAny_of_eq (a := Value.ref I) (by first | rfl | kernel_rfl) ?_)
  refine wpAny_bind (wpAny_callSpecial?_none (name := Str.ofString "__len__") hit.typeIs lookup_it_len ?_)
  refine wpAny_bind (wpAny_rule ?_)
  refine wpAny_bind ?_
  unfold PySem.typeNameOf shownTypeOf
  refine wpAny_bind (wpAny_bind (wpAny_typeOf hit.typeIs ?_))
  simp only [show (Value.type "list_iterator" == Value.type "builtin_function_or_method") = false by decide, Bool.false_eq_true, if_false]
  refine wpAny_pure ?_
  rw [name_it]
  refine wpAny_pure (wpAny_raiseTypeError hh (fun h' tk e hx => h h' tk e hx) ?_)
  show (Str.ofString _).length ≤ sizeLine
  rw [PySem.ofString_length, sizeLine_eq]
  decide
end
section
variable {prog : Program} {w : World} {A A₁ : Around} {E : Value → Shared → Prop} {s' : Shared} {base h₀ g h : Heap} {L L' a e : Addr} {m m' : Str → Option Value} {name : Str} {scope : Scope} {cd : Value} {cells : List (Str × Addr)} {env : Env} {news : Led} {K : Frag}
  {p : Program} {loose : List Str} {mean : ExcName → Option Value} {mg mb : Str → Option Value} {p1 p2 tpos pp pos : Pos} {kk : Nat} {Q : Flow → Shared → Prop}
/-- a TypeError of the frame's own is caught by (TypeError, AttributeError); the frames' slots change, so the ground is laid anew -/
theorem caught2 (hAf : A.frames = some [envX name scope L' a cd cells, env]) (hk' : scope.kind = .function) (hf : env.frame = some L) (hk : env.scope.kind = .function)
    (F : Fr g L' h m') (N : News g L' h news) (B : Below A₁ base [env] g) (FG : Fr h₀ L g m) (X : K.In h₀) (T : Top p loose mean mg mb h₀) (hst : base.StaysIn h₀)
    (hx : Heap.NewExc h s'.heap e "TypeError")
    (e1 : nsIn K mainGlobals (Str.ofString "TypeError") = some none) (e2 : nsIn K mainGlobals (Str.ofString "AttributeError") = some none)
    (n1 : (envX name scope L' a cd cells).kindOf (Str.ofString "TypeError") = some .globalImplicit) (n2 : (envX name scope L' a cd cells).kindOf (Str.ofString "AttributeError") = some .globalImplicit)
    (k : ∀ g' h', Fr h₀ L g' m → Fr g' L' h' m' → News g' L' h' news → Below A₁ base [env] g' → K.In g' → Top p loose mean mg mb g' → Q .next { s' with heap := h' }) :
    wpAny (model prog w) A (noteFrame (.ref e) (envX name scope L' a cd cells)) (fun _ s₂ => wpAny (model prog w) A (setFlight (.ref e) none) (fun _ s₃ => wpAny (model prog w) A (handleBy (.ref e) (envX name scope L' a cd cells)
      [.ExceptHandler (some (.Tuple [.Name (Str.ofString "TypeError") p1, .Name (Str.ofString "AttributeError") p2] kk tpos)) none [.Pass pp] pos]) Q E s₃) E s₂) E s' := by
  refine gen_P fun R9 hR9 => ?_
  obtain ⟨ob, tp, he, hcls, hd⟩ := hx.there
  obtain ⟨oL, es, ep, hL, hLd, hLk, hLf⟩ := FG.ns
  obtain ⟨oL', es', ep', hL', hLd', hLk', hLf'⟩ := F.ns
  refine of_P hR9 ?_
  clear hR9 R9
  have hLh : h.get? L = some oL := F.keep L oL hL
  have gL' : g.get? L' = none := Heap.get?_none_of_le F.above
  have hLL : L' ≠ L := fun q => by rw [q, hL] at gL'; cases gL'
  have hkm' : (envX name scope L' a cd cells).scope.kind ≠ .module := by show scope.kind ≠ .module; rw [hk']; decide
  have hkm : env.scope.kind ≠ .module := by rw [hk]; decide
  have b1 : ∀ b o, b ∉ [L', L] → h.get? b = some o → (TI.gone h [L', L]).get? b = some o := fun b o hb ho => (TI.gone_get hb).trans ho
  have hff : s'.heap.FunFrames (TI.gone h [L', L]) [envX name scope L' a cd cells, env] :=
    Heap.FunFrames.cons hkm' rfl ⟨oL', es', ep', hx.keeps _ _ hL', hLd', hLk', hLf'⟩ (TI.gone_none (.head _)) (Heap.FunFrames.cons hkm hf (m := m) ⟨oL, es, ep, hx.keeps _ _ hLh, hLd, hLk, hLf⟩ (TI.gone_none (.tail _ (.head _))) trivial)
  unfold noteFrame
  simp only [show (envX name scope L' a cd cells).frame = some L' from rfl]
  refine wpAny_bind (wpAny_field he hd (x := .none) rfl ?_)
  rw [if_neg (by decide)]
  refine wpAny_entryW (a0 := tp) hAf hff rfl he (fun b o eb => hx.keeps b o (TI.gone_some eb).2) (TI.none_of (fun b o eb => (TI.gone_some eb).2) hx.new) hd (by show 1 < 6; decide) rfl fun h1 hN => ?_
  refine gen_P fun R9 hR9 => ?_
  obtain ⟨k1, _, ⟨oe, vs, Tb, oT, tvs, he1, ⟨hcl, _⟩, hd1, h11, hnT, hTe, hT, hdT, h3⟩, k4⟩ := hN
  obtain ⟨sl, hL1⟩ := k4 L oL (hx.keeps _ _ hLh) (fun vs q => by rw [hLd] at q; cases q)
  obtain ⟨sl', hL1'⟩ := k4 L' oL' (hx.keeps _ _ hL') (fun vs q => by rw [hLd'] at q; cases q)
  refine of_P hR9 ?_
  clear hR9 R9
  have hTL : Tb ≠ L := fun q => by
    rw [q, hL1] at hT; cases hT
    have : oL.data = .fields tvs := hdT
    rw [hLd] at this; cases this
  have hTL' : Tb ≠ L' := fun q => by
    rw [q, hL1'] at hT; cases hT
    have : oL'.data = .fields tvs := hdT
    rw [hLd'] at this; cases this
  have hTh : h.get? Tb = none := by
    cases q : h.get? Tb with
    | none => rfl
    | some o =>
      have hb : Tb ∉ [L', L] := fun hm => by
        rcases List.mem_cons.mp hm with q | hm
        · exact hTL' q
        · exact hTL (List.mem_singleton.mp hm)
      rw [b1 Tb o hb q] at hnT; cases hnT
  have hsz : 3 < tvs.size := (Array.getElem?_eq_some_iff.mp h3).1
  refine wpAny_setFlight_none he1 hd1 h11 hT hdT hsz ?_
  have u1 := Heap.SameBut.update h1 Tb (Obj.mapFields (·.setIfInBounds 3 Value.none))
  generalize hh2 : h1.update Tb (Obj.mapFields (·.setIfInBounds 3 Value.none)) = h2 at *
  have hT2 : h2.get? Tb = some (oT.mapFields (·.setIfInBounds 3 Value.none)) := by rw [← hh2]; exact Heap.get?_update_self _ hT (Obj.isFreed_of_fields (Obj.data_mapFields hdT _))
  have hdT2 := Obj.data_mapFields hdT (·.setIfInBounds 3 Value.none)
  have up1 : ∀ b o, b ≠ Tb → h1.get? b = some o → h2.get? b = some o := fun b o hb e => u1.extBut b o hb e
  have he2 := up1 _ _ (Ne.symm hTe) he1
  -- the ground anew
  have gk : ∀ b o, b ≠ L → g.get? b = some o → h2.get? b = some o := fun b o hb eb => by
    have hbL' : b ≠ L' := fun q => by rw [q, gL'] at eb; cases eb
    refine up1 b o (fun q => ?_) (k1 b o (b1 b o (fun hm => ?_) (F.keep b o eb)))
    · have := F.keep b o eb; rw [q, hTh] at this; cases this
    · rcases List.mem_cons.mp hm with q | hm
      · exact hbL' q
      · exact hb (List.mem_singleton.mp hm)
  obtain ⟨g', hg'⟩ : ∃ g', g' = g.update L (fun o => { o with slots := sl }) := ⟨_, rfl⟩
  have gs : Heap.SameBut L g g' := by rw [hg']; exact Heap.SameBut.update ..
  have gL2 : g'.get? L = some { oL with slots := sl } := by
    rw [hg']; exact Heap.get?_update_self _ hL (by show Obj.isFreed { oL with slots := sl } = false; obtain ⟨c, d, dt, s9⟩ := oL; obtain rfl : dt = _ := hLd; rfl)
  have gsz : g'.objs.size = g.objs.size := by rw [gs.1]
  have g'k : ∀ b o, g'.get? b = some o → h2.get? b = some o := fun b o eb => by
    by_cases hb : b = L
    · subst hb; rw [gL2] at eb; cases eb; exact up1 _ _ (Ne.symm hTL) hL1
    · exact gk b o hb ((gs.2 b hb).symm.trans eb)
  have g0 : ∀ b o, h₀.get? b = some o → g'.get? b = some o := fun b o eb => by
    have hb : b ≠ L := fun q => by have := Heap.get?_none_of_le FG.above; rw [q, this] at eb; cases eb
    exact (gs.2 b hb).trans (FG.keep b o eb)
  have FG' : Fr h₀ L g' m := ⟨⟨_, es, ep, gL2, hLd, hLk, hLf⟩, g0, FG.above⟩
  have X' : K.In g' := X.keeps g0
  have T' : Top p loose mean mg mb g' := T.keeps g0
  have B' : Below A₁ base [env] g' := ⟨B.stack, fun b o eb => g0 b o (hst b o eb), Heap.FunFrames.cons hkm hf (m := m) ⟨_, es, ep, gL2, hLd, hLk, hLf⟩ (by
    cases q : base.get? L with
    | none => rfl
    | some o => have := hst L o q; rw [Heap.get?_none_of_le FG.above] at this; cases this) trivial⟩
  have F2 : Fr g' L' h2 m' := ⟨⟨_, es', ep', up1 _ _ (Ne.symm hTL') hL1', hLd', hLk', hLf'⟩, g'k, by rw [gsz]; exact F.above⟩
  have N2 : News g' L' h2 news := fun q hq => by
    obtain ⟨x1, x2, x3⟩ := N q hq
    have hqL : q.1 ≠ L := fun z => by rw [z, hL] at x3; cases x3
    refine ⟨up1 _ _ (fun z => by rw [z, hTh] at x1; cases x1) (k1 _ _ (b1 _ _ (fun hm => ?_) x1)), x2, (gs.2 _ hqL).trans x3⟩
    rcases List.mem_cons.mp hm with z | hm
    · exact x2 z
    · exact hqL (List.mem_singleton.mp hm)
  have gTb : g'.get? Tb = none := by
    rw [gs.2 Tb hTL]
    cases q : g.get? Tb with
    | none => rfl
    | some o => have := F.keep _ o q; rw [hTh] at this; cases this
  have nTb : ∀ q ∈ news, q.1 ≠ Tb := fun q hq z => by have := (N q hq).1; rw [z, hTh] at this; cases this
  refine wpAny_handleBy_tup2 (X := "TypeError") (T1 := "TypeError") (T2 := "AttributeError") (b1 := true) (b2 := false) (isSubtype_of_subB (by decide +kernel)) (isSubtype_of_subB (by decide +kernel)) (isSubtype_of_subB (by decide +kernel)) (isSubtype_of_subB (by decide +kernel)) (isSubtype_of_subB (by decide +kernel)) (isSubtype_of_subB (by decide +kernel)) ?_
  refine wpAny_Tuple ?_
  refine wpAny_items_cons (nameX_B (v := .type "TypeError") F2 X' (topRead_of T') e1 (by decide +kernel) (by decide) ?_ hk' n1 (by decide))
  refine wpAny_items_cons (nameX_B (v := .type "AttributeError") F2 X' (topRead_of T') e2 (by decide +kernel) (by decide) ?_ hk' n2 (by decide))
  refine wpAny_items_nil ⟨by size_fits, ⟨_, rfl, ⟨_, Heap.get?_push_size _ rfl, rfl, _, rfl⟩, ⟨_, Heap.get?_push_of_some _ he2, by rw [hcl]; exact hcls⟩, ?_⟩⟩
  rw [if_pos (by rfl)]
  refine wpAny_setFlight_none (Heap.get?_push_of_some _ he2) hd1 h11 (Heap.get?_push_of_some _ hT2) hdT2 (by simpa using hsz) ?_
  refine wpAny_execs_cons (wpAny_Pass (wpAny_execs_nil ?_))
  have u3 := Heap.SameBut.update (h2.push { cls := .type "tuple", data := .seq [Value.type "TypeError", Value.type "AttributeError"].toArray }) Tb (Obj.mapFields (·.setIfInBounds 3 Value.none))
  exact k g' _ FG' ((F2.push _).change u3 hTL' gTb) (fun q hq => ⟨u3.extBut _ _ (nTb q hq) (Heap.get?_push_of_some _ (N2 q hq).1), (N2 q hq).2⟩) B' X' T'
end
section
variable {prog : Program} {w : World} {A A₀ : Around} {s : Shared} {K : Frag} {L : Addr} {h₀ base : Heap} {m mg mb : Str → Option Value} {news : Led} {p : Program} {loose : List Str} {mean : ExcName → Option Value}
/-- a call of a def with cells; its end is free (its try may lay the ground anew) -/
theorem code_defR {env : Env} {outer : List Env} {R : Result → Shared → Prop} {name qual : Str} {params : Arguments} {body : List Stmt} {scope : Scope} {dV kV doc pm cdv ct oc : Value} {an od : Option Addr} {osl : Array (Option Value)} {f : Addr} {args : Args} {binds : List (Str × Value)}
    (B : Below A₀ base outer h₀) (F : Fr h₀ L s.heap m) (X₀ : K.In h₀) (N : News h₀ L s.heap news) (T : Top p loose mean mg mb h₀) (hA : A.frames = some (env :: outer)) (hf : env.frame = some L) (hke : env.scope.kind = .function)
    (ho : K.lookup f = some ⟨oc, od, .func (fnOf name qual params body scope dV kV doc pm an cdv ct), osl⟩) (hcd : codeIn K cdv qual = true) (hroom : A.depth < recursionLimit)
    (hbind : BindsTo s (fnOf name qual params body scope dV kV doc pm an cdv ct) args binds) (hkind : (binds.all fun y => scope.names.lookup y.1 == some .local || scope.names.lookup y.1 == some .cell) = true)
    (hnd : ((cellsFrom 0 scope.names []).map (·.1)).Nodup)
    (h : ∀ g L' h₁ tk cells, Fr h₀ L g m → Fr g L' h₁ (bindL (envOfC qual scope L' f cdv).kindOf binds fun _ => none) → News g L' h₁ (cells ++ news) →
      CellsAre (bindC (envOfC qual scope L' f cdv).kindOf binds fun _ => none) (cellsFrom (L' + 1) scope.names []) cells → Below A base (env :: outer) g → K.In g → Top p loose mean mg mb g → (∀ p ∈ news, p.1 < L') →
      wpAny (model prog w) (A.deeper (envOfC qual scope L' f cdv)) (execs body (envOfC qual scope L' f cdv))
        (fun fl s' => R (.ok (.ret (match fl with | .ret v => v | _ => .none))) s')
        (fun e s' => wpAny (model prog w) (A.deeper (envOfC qual scope L' f cdv)) (leaving (envOfC qual scope L' f cdv) e) (fun _ s'' => R (.error e) s'') (fun e' s'' => R (.error e') s'') s')
        { s with heap := h₁, toks := tk })
    (hco : scope.isCoroutine = false) (hgen : scope.isGenerator = false) (hk : scope.kind = .function) : codeAny (model prog w) A (.call (.ref f) args) R s := by
  have X := X₀.keeps F.keep
  obtain ⟨FG, BG, st, lv⟩ := groundX (R := R) B F N hA hf hke
  refine codeAny_call_function hroom (X _ _ ho) rfl hco hgen rfl (codeRec_of X hcd) (hbind _ _ _ _ ?_)
  refine wpAny_newFunctionEnv_cells hk (kindsX hkind _) fun env' he s' x => ?_
  subst he
  refine ⟨(T.nolimit.keeps F.keep).keeps x.toInCall.keep, codeAny_func ?_⟩
  obtain ⟨h₁, tk, rfl, _⟩ := x.done
  have hk₁ := x.toInCall.keep
  obtain ⟨cells, NC, Y⟩ := Cl.news (h₀ := s.heap) (Nat.le_refl _) fun n c hm => ⟨x.cell n c (lookup_of_mem_nodup (cellsFrom_names scope.names 0 (s.heap.objs.size + 1) [] [] rfl ▸ hnd) hm), x.above n c hm⟩
  refine wpAny_mono (h _ s.heap.objs.size h₁ tk cells FG ⟨x.toInCall.ns, fun b o e => hk₁ b o (of_hideAll _ e), Nat.le_of_eq (hideAll_size _ _)⟩ (fun p hp => ?_) Y BG (X₀.keeps st) (T.keeps st) (fun p hp => Heap.lt_size (N p hp).1)) (fun fl s' hl => hl) fun _ _ y => y
  rcases List.mem_append.mp hp with hp | hp
  · refine ⟨(NC p hp).1, (NC p hp).2.1, ?_⟩
    cases q : (hideAll s.heap (news.map (·.1))).get? p.1 with
    | none => rfl
    | some o => have := of_hideAll _ q; rw [(NC p hp).2.2] at this; cases this
  · exact ⟨hk₁ _ _ (N p hp).1, Nat.ne_of_lt (Heap.lt_size (N p hp).1), hideAll_none _ (List.mem_map_of_mem hp)⟩
/-- back in the caller's frame -/
theorem leave_ground {g : Heap} {L' : Addr} {m' : Str → Option Value} {h : Heap} {nw : Led} (FG : Fr h₀ L g m) (F : Fr g L' h m') (N : News g L' h nw) : Fr h₀ L h m ∧ News h₀ L h nw := by
  obtain ⟨oL, es, ep, hL, hLd, hLk, hLf⟩ := FG.ns
  refine ⟨⟨⟨oL, es, ep, F.keep L oL hL, hLd, hLk, hLf⟩, fun b o e => F.keep b o (FG.keep b o e), FG.above⟩, fun q hq => ?_⟩
  obtain ⟨x1, x2, x3⟩ := N q hq
  refine ⟨x1, (fun z => by rw [z, hL] at x3; cases x3), ?_⟩
  cases z : h₀.get? q.1 with
  | none => rfl
  | some o => have := FG.keep _ o z; rw [x3] at this; cases this
end

-- text: Ns2
section
open PyProof.Rows.LCg (NsObj lst)
theorem ns2_con {w : World} {mean : ExcName → Option Value} {mg mb : Str → Option Value} {rest : Led} {l : Addr} {xs : List (Str × Tok)} {n k : Nat} {t : Tok} (hk2 : 2 ≤ k) (hk6 : k ≤ 6) (hlen : xs.length < 1000) (hkx : k < xs.length) {kf : Str → Str} (hnd : (nsAll kf k xs).1.Nodup) (hkey : ∀ x ∈ xs, ∀ nw, Con w mean mg mb 111 4 32 nw [strO.val x] (fun r nw' => (∃ t, r = .str (kf x.1) t) ∧ nw' = nw)) :
    ConK w mean mg mb 187 9 70 ((l, listOf (xs.map strO.val).toArray n) :: rest) [.int (k : Nat) t, .ref l] [(Str.ofString "key", .ref 111)] (fun r news' => ∃ (D' : Addr) (zs : List (Str × Tok)) (c : Nat) (res : List Core), r = .ref D' ∧ news' = (D', listOf (zs.map strO.val).toArray c) :: (l, listOf (xs.map strO.val).toArray n) :: rest ∧ AllLt D' ((l, listOf (xs.map strO.val).toArray n) :: rest) ∧ List.Perm res (nsAll kf k xs).1 ∧ List.Pairwise (fun a b => Core.less a b = true) res ∧ zs.map (·.1) = res.map (·.2.2)) := by
  have mk15 : True := .intro
  unfold ConK
  k_fill
  intro dp un gd cn cs a ccd cl outer A₀ base h₀ L m s Q E B F X N T hk hd hu hret
  refine wpAny_call ?_
  k_dflt (k_extra "m:enterD")
  refine toks_any fun tk0 => ?_
  k_with "m:own" => ((fail_if_success fail_if_success clear mk15); (((with_reducible show wpAny _ _ (call (Value.builtin "iter") [Value.ref _]) _ _ _); k_dflt (refine' iter_list_led ?k1 ?k2 ?k3 ?_; (case k1 => k_asm); (case k2 => k_asm); (case k3 => k_mem); k_whole); intro I' h' F' N' lI'; (try k_sweep))))
  k_with "m:own" => ((fail_if_success fail_if_success clear mk15); (((with_reducible show wpAny _ _ (exec (Stmt.Try _ (_ :: _) _ [] _) _) _ _ _); refine wpAny_Try_except ?_)))
  k_with "m:own" => ((fail_if_success fail_if_success clear mk15); ((exfalso; lia)))
  k_with "m:stop" => ((fail_if_success fail_if_success clear mk15); ((with_reducible show wpAny _ _ (call (Value.type "zip") _) _ _ _)))
  k_extra "m:steps"
  (rename Fr _ _ _ _ => Fn)
  (rename News _ _ _ _ => Nn)
  k_dflt (refine cg_assign Fn (by with_unfolding_all rfl) (by with_unfolding_all rfl) (by decide) (by rfl) (by decide) (by rfl) (by rfl) ?_)
  k_extra "m:steps"
  (rename Obj => oc)
  have dc : oc.data = Data.cell (some (.ref 111)) := by assumption
  (rename IsRange _ _ _ _ _ _ _ _ => hr9)
  have hsm9 : Builtin.Range.small 0 (k : Int) 1 = true := range_small (by lia)
  have hrs9 : Builtin.Range.rangeSize 0 (k : Int) 1 = (k : Nat) := range_size1 k
  k_dflt (refine' cg_zipR (ys := xs.map strO.val) (n := k) ?k1 ?k2 ?k3 ?kB ?kC ?k4 hr9 hsm9 hrs9 ?k5 ?k6 ?k7 ?k8 ?k9 ?kA (fun i ys nw => ∃ ts rs, Trs kf xs 0 1 i ts ∧ ys = ts.map tupO.val ∧ nw = (L' + 1, oc) :: (l, listOf (xs.map strO.val).toArray n) :: rs ∧ (∀ p ∈ tents ts ++ rest, p ∈ rs) ∧ ∀ p ∈ rs, p.1 ≠ I') ?kJ ?turn ?fin; (case k1 => exact rfl); (case k2 => k_asm); (case k3 => k_asm); (case k4 => k_mem); (case k5 => simp; lia); (case k6 => simp; unfold sizeLine; lia); (case k7 => exact rfl); (case k8 => exact rfl); (case k9 => decide); (case kA => exact rfl); (case kJ => exact ⟨[], rest, Trs.nil, rfl, rfl, fun _ hp => hp, fun p hp => allLt_out lI' p (.tail _ (.tail _ hp))⟩); (case kB => exact ⟨rfl, rfl⟩); (case kC => exact allLt_out lI'))
  case turn =>
    intro i zs nw hi hG12 I1 o1 I2 o2 I3 o3 I4 o4 o5 C oC D m₂ h tk E' hG13 hy hC F9 N9 off9
    refine gen_P fun R9 hR9 => ?_
    obtain ⟨ts, rs, hts, rfl, rfl, hrs, hrI⟩ := hG12
    obtain ⟨t9, hx⟩ := hG13
    refine of_P hR9 ?_
    clear hR9 R9
    rw [getD_strs (by lia)] at hy
    refine tests_go ?_
    k_extra "m:steps"
    k_dflt (refine' Con.useT ?k1 ?k2 ?k3 ?k4 ?k5 ?k6 (hkey (xs.getD i default) (getD_mem (by lia)) _) ?k7 ?k8 ?_)
    k_extra "m:use"
    intro t8 h' tk' F' N'
    k_extra "m:steps"
    (rename Fr _ _ _ _ => Fn)
    (rename News _ _ _ _ => Nn)
    (rename _ ∧ _ ∧ _ ∧ _ ∧ _ ∧ _ ∧ _ ∧ _ ∧ _ ∧ AllLt _ _ => lz)
    have lzz := apt_new (own := [(I1, o1), (I2, o2), (I3, o3), (I4, o4), (I', o5)]) (C := C) (oC := oC) (D := D) (oD := lst (ts.map tupO.val)) (nw := (L' + 1, oc) :: (l, listOf (xs.map strO.val).toArray n) :: rs) (allLt_out lz)
    exact cg_end _ Fn Nn (fun p hp => mem_rot (xs := [_, _, _, _, _, _, _, _, _]) hp) (apt_ins off9 lzz) (fun p hp => by rw [List.mem_singleton.mp hp]; exact .tail _ (.head _)) ⟨_, _, hts.snoc, snoc_val, rfl, tents_snoc hrs, List.forall_mem_cons.mpr ⟨fun e => lzz.1 (e ▸ .tail _ (.tail _ (.tail _ (.tail _ (.head _))))), hrI⟩⟩
  case fin =>
    generalize hfin9 : nsAll kf k xs = fin9 at *
    unfold nsAll at hfin9
    intro D zs nw g o ho hP9 offD ltD h9 tk9 F9 N9
    refine gen_P fun R9 hR9 => ?_
    obtain ⟨ts, rs, hts, q1, q2, hrs, hrI⟩ := hP9
    subst q1 q2
    refine of_P hR9 ?_
    clear hR9 R9
    have hts2 := hts.length
    k_extra "m:steps"
    (rename News _ _ _ _ => Nn)

    k_dflt (refine' Con.use2 ?k1 ?k2 ?k3 ?k4 ?k5 ?k6 (heapify_max_con (l := D) (xs := ts) (n := (ts.map tupO.val).length) tupO offD ?c1 ?c2) ?k7 ?k8 ?_)
    k_extra "m:use"
    (case c1 => exact tents_ok fun p hp => .tail _ (.tail _ (.tail _ (hrs _ (List.mem_append_left _ hp)))))
    (case c2 => lia)
    intro h' tk' F' N'
    have hok9 := hfy_ok (O := tupO) (lt := tupO.gt) (rest := rs) (ts.length / 2) ts (tents_ok fun p hp => hrs _ (List.mem_append_left _ hp)) (by lia)
    have hlen9 : (hfy tupO.gt (ts.length / 2) ts).length = k := (hfy_length _ _).trans hts2
    have hcore9 : (hfy tupO.gt (ts.length / 2) ts).map Tup.core = hfy (fun a b => Core.less b a) (k / 2) ((List.range k).map fun (j : Nat) => (kf (xs.getD j default).1, 0 + (j : Int) * 1, (xs.getD j default).1)) := by
      rw [hfy_map (f := Tup.core) (lt := tupO.gt) (lt' := fun a b => Core.less b a) core_default (fun _ _ => rfl), hts, hts2]
    generalize hfy tupO.gt (ts.length / 2) ts = hs at *
    have hlen0 : 0 < hs.length := by lia
    have hlen1 : hs.length < 1000 := by lia
    k_extra "m:steps"
    (rename News _ _ _ _ => Nn)
    have hx0 := hok9 _ (get!_mem hlen0)
    generalize hx0e : hs[0]! = x0 at *
    revert x0
    refine elimT ?_
    intro T0 k0 tk0' i0 ti0 e0 te0 hx0e hx0
    have Nn2 := news_add Nn (.tail _ (.tail _ (.tail _ (.tail _ hx0))))
    have ev0 : tupO.val (T0, (k0, tk0'), (i0, ti0), (e0, te0)) = Value.ref T0 := rfl
    rw [ev0]
    clear Nn
    k_extra "m:steps"
    (rename Fr _ _ _ _ => Fn)
    (rename News _ _ _ _ => Nn)
    have offI9 : ∀ p ∈ (D, listOf (hs.map tupO.val).toArray (ts.map tupO.val).length) :: (L' + 1, oc) :: (l, listOf (xs.map strO.val).toArray n) :: rs, p.1 ≠ I' := List.forall_mem_cons.mpr ⟨fun e => offD _ (.head _) e.symm, List.forall_mem_cons.mpr ⟨allLt_out lI' _ (.head _), List.forall_mem_cons.mpr ⟨allLt_out lI' _ (.tail _ (.head _)), hrI⟩⟩⟩
    have Nn3 : News _ _ _ ((I', o) :: (D, listOf (hs.map tupO.val).toArray (ts.map tupO.val).length) :: (L' + 1, oc) :: (l, listOf (xs.map strO.val).toArray n) :: rs) := news_perm Nn fun p hp => by
      rcases List.mem_cons.mp hp with rfl | hp
      · exact .tail _ (.tail _ (.head _))
      · rcases List.mem_cons.mp hp with rfl | hp
        · exact .tail _ (.head _)
        · exact .tail _ (.tail _ (.tail _ hp))
    clear Nn
    k_dflt (refine For_turns Fn ?_)
    k_with "m:stop" => ((fail_if_success fail_if_success clear mk15); ((with_reducible show wpAny _ _ (pyIter (Value.ref _)) _ _ _)))
    k_extra "m:steps"
    k_dflt (refine' iter_fromTurns (vs := xs.map strO.val) (n := n) (k := k) ?k1 ?k2 ?k3 ho ?k4 ?k5 offI9 ?_; (case k1 => exact rfl); (case k2 => k_asm); (case k3 => k_asm); (case k4 => simp; lia); (case k5 => k_mem))
    clear Fn Nn3
    k_dflt (refine items_st (σ := List Tup × (Str × Tok) × (Int × Tok) × Led) (fun c => (D, listOf (c.1.map tupO.val).toArray (ts.map tupO.val).length) :: (L' + 1, oc) :: (l, listOf (xs.map strO.val).toArray n) :: c.2.2.2) (fun c => [(Str.ofString "top", .str c.2.1.1 c.2.1.2), (Str.ofString "order", .int c.2.2.1.1 c.2.2.1.2)]) [Str.ofString "elem", Str.ofString "k", Str.ofString "top", Str.ofString "order", Str.ofString "_order", Str.ofString "_elem"] (fun items c => ∃ ys : List (Str × Tok), items = ys.map (fun x => Itm.val (.str x.1 x.2)) ∧ (∀ y ∈ ys, y ∈ xs) ∧ c.1.length = k ∧ (∀ y ∈ c.1, tupO.ok c.2.2.2 y) ∧ (∀ p ∈ rest, p ∈ c.2.2.2) ∧ (∀ p ∈ (L' + 1, oc) :: (l, listOf (xs.map strO.val).toArray n) :: c.2.2.2, p.1 ≠ I' ∧ p.1 ≠ D) ∧ c.2.1.1 = (c.1[0]!).2.1.1 ∧ (ys.map (·.1)).foldl (topStep (fun a b => Core.less b a) (fun a b => sless a b) 1 kf) (c.1.map Tup.core, c.2.2.1.1) = fin9) ?turn2 ?done2 _ (hs, (k0, tk0'), ((k : Int), t), rs) _ ⟨xs.drop k, ?i1, ?i2, ?i3, ?i4, ?i5, ?i6, ?i7, ?i8⟩ (List.forall_mem_cons.mpr ⟨rfl, List.forall_mem_cons.mpr ⟨rfl, List.forall_mem_nil _⟩⟩) (fun _ _ _ => rfl))
    case i1 => simp [strO, Function.comp_def]
    case i2 => exact fun y hy => List.mem_of_mem_drop hy
    case i3 => exact hlen9
    case i4 => exact hok9
    case i5 => exact fun p hp => hrs p (List.mem_append_right _ hp)
    case i6 => exact fun p hp => ⟨offI9 p (.tail _ hp), offD p (.tail _ hp)⟩
    case i7 => dsimp only; rw [hx0e]
    case i8 => dsimp only; rw [hcore9]; exact hfin9
    case turn2 =>
      clear offI9 hx0 hx0e ev0 hcore9 hok9 hlen9 hlen0 hlen1 hs
      intro a9 r
      refine elimS ?_
      intro hs tp ttp od tod rs9 u v h tk hP9 hv F9 o9 ho9 N9
      refine gen_P fun R9 hR9 => ?_
      obtain ⟨ys, e1, e2, e3, e4, e5, e6, e7, e8⟩ := hP9
      cases ys with
      | nil => cases e1
      | cons y ys =>
        cases e1
        have hv' : v = .str y.1 y.2 := hv
        subst hv'
        refine of_P hR9 (gen_body fun R8 hR8 => ?_)
        clear hR9 R9
        k_with "m:own" => ((fail_if_success fail_if_success clear mk15); ((refine of_Q hR8 ?_; (try dsimp only))))
        have N9' : News _ _ _ ((I', o9) :: (D, listOf (hs.map tupO.val).toArray (ts.map tupO.val).length) :: (L' + 1, oc) :: (l, listOf (xs.map strO.val).toArray n) :: rs9) := N9
        clear N9
        dsimp only [kstB] at *
        k_extra "m:steps"
        k_dflt (refine' Con.useT ?k1 ?k2 ?k3 ?k4 ?k5 ?k6 (hkey y (e2 y (.head _)) _) ?k7 ?k8 ?_)
        k_extra "m:use"
        intro t8 h' tk' F' N'
        k_extra "m:steps"
        · (rename Fr _ _ _ _ => Fn)
          (rename News _ _ _ _ => Nn)
          (rename _ ∧ _ ∧ _ ∧ _ ∧ AllLt _ _ => lz)
          (rename Addr => T9)
          (rename _ < _ => hlt)
          have offI := offD _ (.head _)
          k_dflt (refine' Con.use2 ?k1 ?k2 ?k3 (news_perm (b := (D, listOf (hs.map tupO.val).toArray (ts.map tupO.val).length) :: (T9, Tup.obj (T9, (kf y.1, t8), (od, tod), y)) :: (I', o9) :: (L' + 1, oc) :: (l, listOf (xs.map strO.val).toArray n) :: rs9) Nn ?kp) ?k5 ?k6 (heapreplace_max_con (l := D) (xs := hs) (x := (T9, (kf y.1, t8), (od, tod), y)) (n := (ts.map tupO.val).length) tupO ?c0 ?c1 ?c2 ?c3 ?c4) ?k7 ?k8 ?_)
          (case k1 => k_asm); (case k2 => k_asm); (case k3 => k_asm); (case k5 => k_asm); (case k6 => exact rfl); (case k7 => ktr_room); (case k8 => ktr_units)
          (case kp => exact List.forall_mem_cons.mpr ⟨.tail _ (.tail _ (.head _)), List.forall_mem_cons.mpr ⟨.head _, List.forall_mem_cons.mpr ⟨.tail _ (.head _), fun p hp => .tail _ (.tail _ (.tail _ hp))⟩⟩⟩)
          (case c0 => exact List.forall_mem_cons.mpr ⟨Nat.ne_of_gt lz.2.1, List.forall_mem_cons.mpr ⟨offI, fun p hp => (e6 p hp).2⟩⟩)
          (case c1 => exact fun z hz => .tail _ (.tail _ (.tail _ (.tail _ (e4 z hz)))))
          (case c2 => exact .head _)
          (case c3 => lia)
          (case c4 => lia)
          intro h' tk' F' N'
          have hok9 := sup_ok (O := tupO) (lt := tupO.gt) (rest := (T9, Tup.obj (T9, (kf y.1, t8), (od, tod), y)) :: rs9) (xs := hs.set 0 (T9, (kf y.1, t8), (od, tod), y)) (p := 0) (ok_set (fun z hz => .tail _ (e4 z hz)) (.head _)) (by simp; lia)
          have hlen9 : (sup tupO.gt (hs.set 0 (T9, (kf y.1, t8), (od, tod), y)) 0).length = k := by rw [sup_length, List.length_set]; exact e3
          have hst9 := topStep_hit (lt := tupO.gt) (lt' := fun a b => Core.less b a) (fun _ _ => rfl) (cmp := fun a b => sless a b) (d := 1) (hs := hs) (x := (T9, (kf y.1, t8), (od, tod), y)) rfl (by rw [← e7]; exact decide_eq_true hlt)
          rw [List.map_cons, List.foldl_cons, hst9] at e8
          generalize sup tupO.gt (hs.set 0 (T9, (kf y.1, t8), (od, tod), y)) 0 = hs2 at *
          have hlen0 : 0 < hs2.length := by lia
          have hlen1 : hs2.length < 1000 := by lia
          k_extra "m:steps"
          (rename News _ _ _ _ => Nn)
          have hx0 := hok9 _ (get!_mem hlen0)
          generalize hx0e : hs2[0]! = x0 at *
          revert x0
          refine elimT ?_
          intro T0 k0 tk0' i0 ti0 e0 te0 hx0e hx0
          have hx0m : (T0, Tup.obj (T0, (k0, tk0'), (i0, ti0), (e0, te0))) ∈ (D, listOf (hs2.map tupO.val).toArray (ts.map tupO.val).length) :: (T9, Tup.obj (T9, (kf y.1, t8), (od, tod), y)) :: (I', o9) :: (L' + 1, oc) :: (l, listOf (xs.map strO.val).toArray n) :: rs9 := by
            rcases List.mem_cons.mp hx0 with e | h
            · rw [show (T0, Tup.obj (T0, (k0, tk0'), (i0, ti0), (e0, te0))) = (T9, Tup.obj (T9, (kf y.1, t8), (od, tod), y)) from e]; exact .tail _ (.head _)
            · exact .tail _ (.tail _ (.tail _ (.tail _ (.tail _ h))))
          have Nn2 := news_add Nn hx0m
          have ev0 : tupO.val (T0, (k0, tk0'), (i0, ti0), (e0, te0)) = Value.ref T0 := rfl
          rw [ev0]
          clear Nn
          k_extra "m:steps"
          (rename Fr _ _ _ _ => Fn)
          (rename News _ _ _ _ => Nn)
          refine it_next ?_
          exact it_end (hs2, (k0, tk0'), (od + 1, _), (T9, Tup.obj (T9, (kf y.1, t8), (od, tod), y)) :: rs9) Fn Nn
            (List.forall_mem_cons.mpr ⟨.tail _ (.tail _ (.tail _ (.head _))), List.forall_mem_cons.mpr ⟨.tail _ (.head _), List.forall_mem_cons.mpr ⟨.tail _ (.tail _ (.tail _ (.tail _ (.head _)))), List.forall_mem_cons.mpr ⟨.tail _ (.tail _ (.tail _ (.tail _ (.tail _ (.head _))))), List.forall_mem_cons.mpr ⟨.tail _ (.tail _ (.head _)), fun p hp => .tail _ (.tail _ (.tail _ (.tail _ (.tail _ (.tail _ hp)))))⟩⟩⟩⟩⟩)
            (fun p hp q hq => by
              rw [List.mem_singleton.mp hq]
              exact (List.forall_mem_cons.mpr ⟨fun e => offI e.symm, List.forall_mem_cons.mpr ⟨(e6 _ (.head _)).1, List.forall_mem_cons.mpr ⟨(e6 _ (.tail _ (.head _))).1, List.forall_mem_cons.mpr ⟨Nat.ne_of_gt lz.1, fun p hp => (e6 p (.tail _ (.tail _ hp))).1⟩⟩⟩⟩ : ∀ p ∈ (D, listOf (hs2.map tupO.val).toArray (ts.map tupO.val).length) :: (L' + 1, oc) :: (l, listOf (xs.map strO.val).toArray n) :: (T9, Tup.obj (T9, (kf y.1, t8), (od, tod), y)) :: rs9, p.1 ≠ I') p hp)
            (fun p hp => by rw [List.mem_singleton.mp hp]; exact .tail _ (.tail _ (.head _))) (List.forall_mem_cons.mpr ⟨rfl, List.forall_mem_cons.mpr ⟨rfl, List.forall_mem_nil _⟩⟩) (by k_extra "m:same")
            ⟨ys, rfl, fun z hz => e2 z (.tail _ hz), hlen9, hok9, fun p hp => .tail _ (e5 p hp), List.forall_mem_cons.mpr ⟨e6 _ (.head _), List.forall_mem_cons.mpr ⟨e6 _ (.tail _ (.head _)), List.forall_mem_cons.mpr ⟨⟨Nat.ne_of_gt lz.1, Nat.ne_of_gt lz.2.1⟩, fun p hp => e6 p (.tail _ (.tail _ hp))⟩⟩⟩, by dsimp only; rw [hx0e], e8⟩
        · (rename Fr _ _ _ _ => Fn)
          (rename News _ _ _ _ => Nn)
          (rename ¬ _ < _ => hlt)
          have hst9 := topStep_miss (lt' := fun a b => Core.less b a) (cmp := fun a b => sless a b) (d := 1) (kf := kf) (od := od) (y := y.1) (hs := hs) (by rw [← e7]; exact decide_eq_false hlt)
          rw [List.map_cons, List.foldl_cons, hst9] at e8
          refine it_next ?_
          exact it_end (hs, (tp, ttp), (od, tod), rs9) Fn Nn (fun p hp => hp) (fun p hp q hq => by
            rw [List.mem_singleton.mp hq]
            rcases List.mem_cons.mp hp with rfl | hp
            · exact fun e => offD _ (.head _) e.symm
            · exact (e6 p hp).1) (fun p hp => by rw [List.mem_singleton.mp hp]; exact .tail _ (.tail _ (.head _))) (List.forall_mem_cons.mpr ⟨rfl, List.forall_mem_cons.mpr ⟨rfl, List.forall_mem_nil _⟩⟩) (by k_extra "m:same")
            ⟨ys, rfl, fun z hz => e2 z (.tail _ hz), e3, e4, e5, e6, e7, e8⟩
    case done2 =>
      clear offI9 hx0 hx0e ev0 hcore9 hok9 hlen9 hlen0 hlen1 hs
      refine elimS ?_
      intro hs tp ttp od tod rs9 u h tk hP9 F9 N9
      refine gen_P fun R9 hR9 => ?_
      obtain ⟨ys, e1, e2, e3, e4, e5, e6, e7, e8⟩ := hP9
      have er : ys = [] := by cases ys with | nil => rfl | cons _ _ => cases e1
      subst er
      refine of_P hR9 ?_
      clear hR9 R9
      dsimp only [kstB] at *
      k_extra "m:steps"
      have hfin : hs.map Tup.core = fin9.1 := by rw [← e8]; rfl
      (rename News _ _ _ _ => Nn)
      (rename Fr _ _ _ _ => Fn)
      k_dflt (refine' tsort_led (D := D) (ts := hs) ?k1 ?k2 ?k3 ?k4 ?k5 ?k6 ?k7 ?_; (case k1 => k_asm); (case k2 => k_asm); (case k3 => exact fun p hp => (e6 p hp).2); (case k4 => exact fun z hz => .tail _ (.tail _ (e4 z hz))); (case k5 => lia); (case k6 => lia); (case k7 => rw [hfin]; exact hnd))
      intro ts2 c2 h2' hp2 hs2 F2 N2
      have hl2 : ts2.length = k := hp2.length_eq.trans e3
      have hok2 : ∀ z ∈ ts2, tupO.ok rs9 z := fun z hz => e4 z (hp2.mem_iff.mp hz)
      clear Fn Nn
      k_extra "m:steps"
      (rename Fr g' _ _ _ => Fn)
      k_dflt (refine cg_eval Fn (by with_unfolding_all rfl) (by decide) (by rfl) (by decide) ?_)
      k_extra "m:steps"
      k_dflt (refine' cg_trips (l := D) (ts := ts2) (k := c2) ?k1 ?k2 ?k3 ?k4 ?k5 ?k6 ?k7 ?k8 ?k9 ?kA ?kB ?kC ?kD (fun i ys nw => ys = (ts2.take i).map (fun t => .str t.2.2.2.1 t.2.2.2.2) ∧ nw = (D, listOf (ts2.map tupO.val).toArray c2) :: (L' + 1, oc) :: (l, listOf (xs.map strO.val).toArray n) :: rs9) ?kJ ?turn3 ?fin3; (case k1 => exact rfl); (case k2 => k_asm); (case k3 => k_asm); (case k4 => k_mem); (case k5 => exact fun z hz => .tail _ (.tail _ (.tail _ (hok2 z hz)))); (case k6 => unfold sizeLine; lia); (case k7 => exact rfl); (case k8 => exact rfl); (case k9 => exact rfl); (case kA => decide); (case kB => decide); (case kC => decide); (case kD => exact rfl); (case kJ => exact ⟨rfl, rfl⟩))
      case turn3 =>
        refine two_turn ?_
        intro i hi I oI C oC D2 m₂ h tk E' hz hC F9 N9 off9
        refine tests_go ?_
        k_extra "m:steps"
        (rename Fr _ _ _ _ => Fn)
        (rename News _ _ _ _ => Nn)
        exact cg_end _ Fn Nn (fun p hp => hp) off9 (List.forall_mem_cons.mpr ⟨.head _, fun p hp => by
          obtain ⟨t9, ht9, rfl⟩ := List.mem_map.mp hp
          exact .tail _ (.tail _ (.tail _ (hok2 t9 ht9)))⟩) ⟨by rw [List.take_succ_eq_append_getElem hi, List.map_append]; rfl, rfl⟩
      case fin3 =>
        refine two_fin ?_
        intro D2 g offD2 ltD2 h9 tk9 F9 N9
        k_extra "m:steps"
        (rename Fr h₀ _ _ _ => Fn)
        (rename News h₀ _ _ _ => Nn)
        rw [List.take_length] at Nn
        refine hret _ ((D2, listOf ((ts2.map fun t => (t.2.2.2.1, t.2.2.2.2)).map strO.val).toArray ts2.length) :: (l, listOf (xs.map strO.val).toArray n) :: rest) _ _ Fn ?_ ⟨D2, ts2.map fun t => (t.2.2.2.1, t.2.2.2.2), ts2.length, ts2.map Tup.core, rfl, rfl, ?_, ?_, ?_, ?_⟩
        · have e9 : lst (ts2.map fun t => Value.str t.2.2.2.1 t.2.2.2.2) = listOf ((ts2.map fun t => (t.2.2.2.1, t.2.2.2.2)).map strO.val).toArray ts2.length := by
            rw [List.map_map]; show listOf _ _ = listOf _ _; rw [List.length_map]; rfl
          rw [e9] at Nn
          refine news_perm Nn (List.forall_mem_cons.mpr ⟨.head _, List.forall_mem_cons.mpr ⟨.tail _ (.tail _ (.tail _ (.head _))), fun p hp => .tail _ (.tail _ (.tail _ (.tail _ (e5 p hp))))⟩⟩)
        · exact allLt_of (List.forall_mem_cons.mpr ⟨ltD2 _ (.tail _ (.tail _ (.head _))), fun p hp => ltD2 _ (.tail _ (.tail _ (.tail _ (e5 p hp))))⟩)
        · rw [← hfin]; exact hp2.map _
        · rw [List.pairwise_map]; exact hs2
        · rw [List.map_map, List.map_map]; rfl

end

-- text: Sort4
section
variable {prog : Program} {w : World} {A : Around} {E : Value → Shared → Prop} {s : Shared} {h₀ : Heap} {L : Addr} {m : Str → Option Value} {f : Value} {kf : Str → Str} {kS D : Addr}
/-- the keys of a sort, one by one -/
theorem katKeys_strs {Fin : List Value → Nat → Shared → Prop} {nw : Led} {goal : List Str} {all : List (Str × Tok)} (hk : ∀ p ∈ nw, p.1 ≠ kS)
    (hcall : ∀ (x : Str × Tok) h tk nw', x ∈ all → Fr h₀ L h m → News h₀ L h nw' → wpAny (model prog w) A (call f [strO.val x]) (fun r s' => ∃ h' tk' t, r = .str (kf x.1) t ∧ s' = { s with heap := h', toks := tk' } ∧ Fr h₀ L h' m ∧ News h₀ L h' nw') (fun _ _ => False) { s with heap := h, toks := tk })
    (fin : ∀ (ks : List (Str × Tok)) e h tk, ks.map (·.1) = goal → Fr h₀ L h m → News h₀ L h ((kS, seqObj "list" (ks.map strO.val).toArray e) :: nw) → Fin (ks.map strO.val) e { s with heap := h, toks := tk }) :
    ∀ (r : List (Str × Tok)) (ks : List (Str × Tok)) e h tk, (∀ x ∈ r, x ∈ all) → ks.map (·.1) ++ r.map (fun x => kf x.1) = goal → Fr h₀ L h m → News h₀ L h ((kS, seqObj "list" (ks.map strO.val).toArray e) :: nw) →
      KatKeys prog w A h₀ L m kS f Fin (r.map strO.val) (ks.map strO.val) e { s with heap := h, toks := tk }
  | [], ks, e, h, tk, _, hg, F, N => KatKeys.nil (fin ks e h tk (by simpa using hg) F N)
  | x :: r, ks, e, h, tk, hr, hg, F, N => by
    refine KatKeys.cons (wpAny_mono (hcall x h tk _ (hr x (.head _)) F N) (fun v s' hv => ?_) fun _ _ e => e)
    obtain ⟨h', tk', t, rfl, rfl, F', N'⟩ := hv
    refine KatBack.intro F' N' (UpdF.head hk) fun h'' c F'' N'' => ?_
    have e9 : ks.map strO.val ++ [.str (kf x.1) t] = (ks ++ [(kf x.1, t)]).map strO.val := by simp [strO]
    rw [e9] at N'' ⊢
    exact katKeys_strs hk hcall fin r (ks ++ [(kf x.1, t)]) c h'' tk' (fun y hy => hr y (.tail _ hy)) (by simpa using hg) F'' N''
theorem sortedK_led {l : Addr} {xs : List (Str × Tok)} {n : Nat} {news : Led} {p : Array Nat} {q : Addr} {Q : Value → Shared → Prop} (F : Fr h₀ L s.heap m) (N : News h₀ L s.heap news) (hm : (l, listOf (xs.map strO.val).toArray n) ∈ news) (h2 : 2 ≤ xs.length) (h64 : xs.length < 64)
    (hrun : runL (fun i j => sless (kf (xs.getD i default).1) (kf (xs.getD j default).1)) xs.length (kas_sort xs.length) = some p) (hin : ∀ i ∈ p.toList, i < xs.length)
    (hcall : ∀ (x : Str × Tok) h tk nw', x ∈ xs → Fr h₀ L h m → News h₀ L h nw' → wpAny (model prog w) A.in1.in1 (call (.ref q) [strO.val x]) (fun r s' => ∃ h' tk' t, r = .str (kf x.1) t ∧ s' = { s with heap := h', toks := tk' } ∧ Fr h₀ L h' m ∧ News h₀ L h' nw') (fun _ _ => False) { s with heap := h, toks := tk })
    (h : ∀ D c h' tk, Fr h₀ L h' m → News h₀ L h' ((D, listOf ((p.toList.map fun i => xs.getD i default).map strO.val).toArray c) :: news) → AllLt D news → Q (.ref D) { s with heap := h', toks := tk }) :
    wpAny (model prog w) A (call (.builtin "sorted") [.ref l] [(Str.ofString "key", .ref q)]) Q E s := by
  refine kat_sortedK (vs := xs.map strO.val) (b := false) F N (PySem.IsL.isList (n := n) (N _ hm).1) (by simpa using h2) (by simpa using h64) (ksk_s1 _ _) (fun x => ksk_l1 _ _) (fun x => ksk_t1 q x) fun D kS e1 h' F' N' hDk hlt => ?_
  have hkS : ∀ p ∈ (D, seqObj "list" #[] e1) :: news, p.1 ≠ kS := List.forall_mem_cons.mpr ⟨Nat.ne_of_lt hDk, fun p hp => Nat.ne_of_lt (Nat.lt_trans (hlt p hp) hDk)⟩
  refine katKeys_strs (s := s) (kf := kf) (goal := xs.map fun x => kf x.1) (all := xs) (nw := (D, seqObj "list" #[] e1) :: news) hkS hcall (fun ks e h9 tk9 hg F9 N9 => ?_) xs [] 0 h' s.toks (fun x hx => hx) rfl F' N'
  have hkl : ks.length = xs.length := by have := congrArg List.length hg; simpa using this
  have hkg : ∀ i, i < xs.length → (ks.getD i default).1 = kf (xs.getD i default).1 := fun i hi => by
    have := congrArg (fun l => l[i]?) hg
    simp [hkl, hi] at this
    simp [hkl, hi, this]
  refine kas_kind (T := .type "str") (by simpa [hkl] using h2) (fun v hv => ?_) rfl rfl ?_
  · obtain ⟨x, _, rfl⟩ := List.mem_map.mp hv
    exact Looks.of_pure rfl
  · rw [List.length_map]
    refine kasWp_runL (n := xs.length) (fun i j C hi hj hC => ?_) _ p hrun ?_
    · show wpAny _ _ (keyLt' oneType' ((katRev false (ks.map strO.val)).getD i .none) ((katRev false (ks.map strO.val)).getD j .none)) _ _ _
      have e1 : (katRev false (ks.map strO.val)).getD i .none = .str (ks.getD i default).1 (ks.getD i default).2 := getD_strs (xs := ks) (by lia)
      have e2 : (katRev false (ks.map strO.val)).getD j .none = .str (ks.getD j default).1 (ks.getD j default).2 := getD_strs (xs := ks) (by lia)
      rw [e1, e2]
      refine kas_lt_str ?_
      rw [hkg i hi, hkg j hj]
      exact hC
    · refine KatFin.intro F9 N9 (UpdF.head hkS) fun h8 c8 F8 N8 => ?_
      refine KasFin.intro F8 N8 (UpdF.tail (Nat.ne_of_gt hDk) (UpdF.head fun p hp => Nat.ne_of_lt (hlt p hp))) fun h7 c7 F7 N7 => ?_
      have e9 : katRev false (p.toList.map fun i => (katRev false (xs.map strO.val)).getD i Value.none) = (p.toList.map fun i => xs.getD i default).map strO.val := by
        show (p.toList.map fun i => (xs.map strO.val).getD i Value.none) = _
        rw [List.map_map]
        exact List.map_congr_left fun i hi => by rw [getD_strs (hin i hi)]; rfl
      rw [e9] at N7
      exact h D c7 h7 tk9 F7 (fun p hp => N7 p (.tail _ hp)) (allLt_of hlt)
end

-- text: Nl2
theorem setup_Nl2 : True := by
  k_with_none
  w_top off
  k_with "m:own" => ((with_reducible show wpAny _ _ (subscriptTail _ _ (Value.ref _) (Value.int _ _)) _ _ _); k_dflt (refine' item_ledN (ι := ?ki) ?k1 ?k2 ?k4 ?k5 ?_ ?k7; (case k1 => k_asm); (case k2 => k_mem); (case ki => infer_instance); (case k4 => lia); (case k5 => lia); (case k7 => with_unfolding_all rfl); k_whole))
  k_with "m:own" => ((with_reducible show wpAny _ _ (subscriptTail _ _ (Value.ref _) (Value.int 0 _)) _ _ _); k_dflt (refine' item_led0 (ι := ?ki) ?k1 ?k2 ?k4 ?k5 ?_ ?k7; (case k1 => k_asm); (case k2 => k_mem); (case ki => infer_instance); (case k4 => lia); (case k5 => lia); (case k7 => with_unfolding_all rfl); k_whole))
  k_with "m:own" => ((with_reducible show wpAny _ _ (setItem (Value.ref _) (Value.int 0 _) _) _ _ _); k_dflt (refine' set_led0 ?k1 ?k2 ?k3 ?k5 ?k6 ?_; (case k1 => k_asm); (case k2 => k_asm); (case k3 => first | exact Upd.head (by assumption) | k_upd); (case k5 => lia); (case k6 => lia); k_whole); intro h' F' N'; (try k_sweep))
  k_with "m:own" => ((with_reducible show wpAny _ _ (setItem (Value.ref _) (Value.int _ _) _) _ _ _); k_dflt (refine' set_ledN ?k1 ?k2 ?k3 ?k5 ?k6 ?_; (case k1 => k_asm); (case k2 => k_asm); (case k3 => first | exact Upd.head (by assumption) | k_upd); (case k5 => lia); (case k6 => lia); k_whole); intro h' F' N'; (try k_sweep))
  k_with "m:own" => ((with_reducible show wpAny _ _ (compareOp CmpOp.Lt (Ordr.val _ _) (Ordr.val _ _)) _ _ _); k_dflt (refine' Ordr.cmp1 _ ?k1 ?k2 ?k3 ?k4 ?_; (case k1 => k_asm); (case k2 => first | assumption | exact ok_get! (by assumption) (by lia)); (case k3 => first | assumption | exact ok_get! (by assumption) (by lia)); (case k4 => ktr_units); k_whole); intro tk')
  k_with "m:own" => ((with_reducible refine shr_one ?kb1 ?_); (case kb1 => lia))
  k_with "m:own" => ((with_reducible show wpAny _ _ (call (Value.builtin "len") [Value.ref _]) _ _ _); k_dflt (refine' len_led ?k1 ?k2 ?k3 ?_; (case k1 => k_asm); (case k2 => k_mem); (case k3 => lia); k_whole); intro tl' tk')
  k_with "m:own" => ((with_reducible refine add1_nat ?_); intro tk')
  k_with "m:own" => ((with_reducible refine mul2_nat ?_); intro tk')
  k_with "m:own" => ((with_reducible show wpAny _ _ (call (Value.builtin "list.append") [Value.ref _, Ordr.val _ _]) _ _ _); k_dflt (refine' append_led ?k1 ?k2 ?k3 ?k5 ?_; (case k1 => k_asm); (case k2 => k_asm); (case k3 => first | exact Upd.head (by assumption) | k_upd); (case k5 => unfold sizeLine; lia); k_whole); intro h' F' N'; (try k_sweep))
  k_with "m:own" => ((with_reducible show wpAny _ _ (truthy (Value.ref _)) _ _ _); k_dflt (refine' truthy_led ?k1 ?k2 ?k5 ?_; (case k1 => k_asm); (case k2 => k_mem); (case k5 => unfold sizeLine; lia); k_whole); intro tk')
  k_with "m:own" => ((with_reducible refine half_nat ?_); intro tk')
  k_with "m:own" => ((with_reducible show wpAny _ _ (subscriptTail _ _ (Value.ref _) (Value.int (-1) _)) _ _ _); k_dflt (refine' item_lastS ?k1 ?k2 ?k4 ?k5 ?_ ?k7; (case k1 => k_asm); (case k2 => k_mem); (case k4 => first | assumption | lia); (case k5 => first | assumption | lia); (case k7 => with_unfolding_all rfl); k_whole); (try (have hle' := last_len es' hp')))
  k_with "m:own" => ((with_reducible show wpAny _ _ (call (Value.builtin "str.split") [Value.str _ _, Value.str _ _]) _ _ _); k_dflt (refine' split_led ?k1 ?k2 ?k3 ?_ ?k5; (case k1 => k_asm); (case k2 => k_asm); (case k3 => decide); (case k5 => unfold sizeLine; lia); k_whole); intro Ds' ls' h' tk' es' hp' hw' F' N' l1'; (try k_sweep))
  k_with "m:own" => ((with_reducible show wpAny _ _ (call (Value.builtin "str.join") [Value.str _ _, Value.ref _]) _ _ _); k_dflt (refine' join_led ?k1 ?k2 ?k3 ?_; (case k1 => k_asm); (case k2 => k_mem); (case k3 => k_extra "m:sizes"); k_whole); intro t' tk')
  k_with "m:own" => ((with_reducible show wpAny _ _ (subscriptTail _ (PySem.Expr.Slice none (some _) none _) (Value.ref _) (Value.ref _)) _ _ _); k_dflt (refine' slice_led ?k1 ?k2 ?k3 (IsPart.none) (IsPart.int (-1) _) (pick_init _) ?_ ?s ?t ?z; (case k1 => k_asm); (case k2 => k_asm); (case k3 => k_mem); (case s => with_unfolding_all rfl); (case t => intro _; with_unfolding_all rfl); (case z => unfold sizeLine; lia); k_whole); intro Dl' h' F' N' l1'; (try k_sweep))
  k_with "m:enterC" => (refine' code_defC ?k1 ?k2 ?k3 ?k4 ?k5 ?kA ?kF ?kK ?k6 ?k7 ?k8 ?k9 ?kB ?kD ?_ ?c2 ?c3 ?c4; (case kA => exact rfl); (case kF => exact rfl); (case kK => assumption); (case k1 => k_asm); (case k2 => k_asm); (case k3 => k_asm); (case k4 => k_asm); (case k5 => k_asm); (case k6 => k_is); (case k7 => k_is); (case k8 => ktr_room); (case k9 => exact BindsTo.of_eq rfl); (case kB => exact rfl); (case kD => decide +kernel); (case c2 => exact rfl); (case c3 => exact rfl); (case c4 => exact rfl); k_whole; intro g' L' h' tk' cells' FG' F' N' Y' B' X' T' l1'; k_cells Y'; (try simp only [List.cons_append, List.nil_append] at N'); (try dsimp only); (try k_lift B'); (try k_fold))
  k_with "m:enterD" => (refine' code_defC ?k1 ?k2 ?k3 ?k4 ?k5 ?kA ?kF ?kK ?k6 ?k7 ?k8 ?k9 ?kB ?kD ?_ ?c2 ?c3 ?c4; (case kA => exact rfl); (case kF => exact rfl); (case kK => assumption); (case k1 => k_asm); (case k2 => k_asm); (case k3 => k_asm); (case k4 => k_asm); (case k5 => k_asm); (case k6 => k_is); (case k7 => k_is); (case k8 => ktr_room); (case k9 => exact binds_K (by k_in) rfl (by k_is) rfl rfl rfl); (case kB => exact rfl); (case kD => decide +kernel); (case c2 => exact rfl); (case c3 => exact rfl); (case c4 => exact rfl); k_whole; intro g' L' h' tk' cells' FG' F' N' Y' B' X' T' l1'; k_cells Y'; (try simp only [List.cons_append, List.nil_append] at N'); (try dsimp only); (try k_lift B'); (try k_fold))
  k_with "m:enterK" => (refine' code_def ?k1 ?k2 ?k3 ?k4 ?k5 ?kA ?kF ?kK ?k6 ?k7 ?k8 ?k9 ?kB ?_ ?c2 ?c3 ?c4 ?c5; (case kA => exact rfl); (case kF => exact rfl); (case kK => assumption); (case k1 => k_asm); (case k2 => k_asm); (case k3 => k_asm); (case k4 => k_asm); (case k5 => k_asm); (case k6 => k_is); (case k7 => k_is); (case k8 => ktr_room); (case k9 => first | exact BindsTo.of_eq rfl | exact binds_K (by k_in) rfl (by k_is) rfl rfl rfl); (case c5 => decide); (case kB => exact locs rfl); (case c2 => exact rfl); (case c3 => exact rfl); (case c4 => exact rfl); k_whole; intro g' L' h' FG' F' N' B' X' T'; (try dsimp only); (try k_lift B'); (try k_fold))
  k_with "m:comp" => (k_dflt (refine LCg.ListComp_U (F₀ := by k_asm) (by with_unfolding_all rfl) (by decide) (by rfl) (by decide) (by rfl) ?_))
  k_with "m:own" => ((with_reducible show wpAny _ _ (binaryOp Operator.Pow (Value.int _ _) (Value.int (Nat.cast _) _)) _ _ _); (with_reducible refine pow_small ?k1 ?k2 ?_); (case k1 => decide); (case k2 => lia); intro tk')
  k_with "m:own" => ((with_reducible show wpAny _ _ (subscriptTail _ _ (Value.ref _) (Value.int _ _)) _ _ _); k_dflt (refine' item_any ?k1 ?k2 ?k3 ?k4 ?k5 ?_ ?k7; (case k1 => k_asm); (case k2 => k_mem); (case k3 => assumption); (case k4 => first | assumption | (refine Int.lt_of_lt_of_le (by assumption) ?_; decide)); (case k5 => first | decide | (show _ < _; lia)); (case k7 => with_unfolding_all rfl); k_whole))
  k_with "m:own" => ((with_reducible refine fdiv_pow ?k1 ?k2 ?_); (case k1 => decide); (case k2 => lia); intro tk')
  k_with "m:own" => ((with_reducible show wpAny _ _ (call (Value.builtin "list.index") [Value.ref _, Value.str _ _]) _ _ _); k_dflt (refine' index_strs ?k1 ?k2 ?k3 ?k4 ?_; (case k1 => k_asm); (case k2 => k_mem); (case k3 => assumption); (case k4 => assumption); k_whole); intro tk')
  k_with "m:own" => ((with_reducible show wpAny _ _ (subscriptTail _ (PySem.Expr.Slice none (some _) none _) (Value.ref _) (Value.ref _)) _ _ _); k_dflt (refine' slice_led ?k1 ?k2 ?k3 (IsPart.none) (IsPart.int (Nat.cast _) _) (pick_upto _ _) ?_ ?s ?t ?z; (case k1 => k_asm); (case k2 => k_asm); (case k3 => k_mem); (case s => with_unfolding_all rfl); (case t => intro _; with_unfolding_all rfl); (case z => unfold sizeLine; lia); k_whole); intro Dl' h' F' N' l1'; (try k_sweep))
  k_with "m:own" => ((with_reducible show wpAny _ _ (subscriptTail _ (PySem.Expr.Slice (some _) none none _) (Value.ref _) (Value.ref _)) _ _ _); k_dflt (refine' slice_led ?k1 ?k2 ?k3 (IsPart.int (Nat.cast _) _) (IsPart.none) (pick_from _ _) ?_ ?s ?t ?z; (case k1 => k_asm); (case k2 => k_asm); (case k3 => k_mem); (case s => with_unfolding_all rfl); (case t => intro _; with_unfolding_all rfl); (case z => unfold sizeLine; lia); k_whole); intro Dl' h' F' N' l1'; (try k_sweep))
  k_with "m:enterB" => (refine' kp_both ?k1 ?k2 ?k3 ?k4 ?k5 ?kA ?kF ?kK ?k6 ?k7 ?k8 ?kV ?kX ?kQ ?kM ?kN ?kD ?kR ?kP ?kS ?kT ?kB ?_ ?c2 ?c3 ?c4 ?c5; (case kA => exact rfl); (case kF => exact rfl); (case kK => assumption); (case k1 => k_asm); (case k2 => k_asm); (case k3 => k_asm); (case k4 => k_asm); (case k5 => k_asm); (case k6 => k_is); (case k7 => k_is); (case k8 => ktr_room); (case kV => kp_lit); (case kX => kp_lit); (case kQ => exact rfl); (case kM => exact rfl); (case kN => exact rfl); (case kD => kp_flats); (case kR => exact rfl); (case kP => exact rfl); (case kS => exact fun _ => rfl); (case kT => exact fun _ _ => rfl); (case kB => exact fun _ _ => locs rfl); (case c5 => decide); (case c2 => exact rfl); (case c3 => exact rfl); (case c4 => exact rfl); k_whole; intro C' D' o' g' L' h' tk' l1 l2 lo' hs' fs' FG' F' N' B' X' T'; (try dsimp only); (try k_lift B'); (try k_fold))
  k_with "m:own" => ((with_reducible show wpAny _ _ (call (Value.builtin "list.append") [Value.ref _, Value.str _ _]) _ _ _); k_dflt (refine' append_strs ?k1 ?k2 ?k3 ?k5 ?_; (case k1 => k_asm); (case k2 => k_asm); (case k3 => first | exact Upd.head (by assumption) | exact Upd.tail (by assumption) (Upd.head (by assumption)) | k_upd); (case k5 => unfold sizeLine; lia); k_whole); intro h' F' N'; (try k_sweep))
  k_with "m:same" => first | (intro z hp hz; (try dsimp only); (repeat (first | exact same_kst hz | refine same_ite (ne_c rfl hz) ?_)); done) | ksw_same
  k_with "m:use" => ((case k1 => k_asm); (case k2 => k_asm); (case k3 => k_asm); (case k4 => k_asm); (case k5 => k_asm); (case k6 => exact rfl); (case k7 => first | exact room2 (by assumption) rfl | exact room3 (by assumption) rfl | exact room4 (by assumption) rfl | exact room5 (by assumption) rfl | ktr_room); (case k8 => first | exact room2 (by assumption) rfl | exact room3 (by assumption) rfl | exact room4 (by assumption) rfl | exact room5 (by assumption) rfl | ktr_units))
  k_with "m:steps" => repeat' (
    (fail_if_success (with_reducible show wpAny _ _ (exec (Stmt.While _ _ _ _) _) _ _ _))
    (fail_if_success (with_reducible show wpAny _ _ (exec (Stmt.For _ _ _ _ _) _) _ _ _))
    (fail_if_success (with_reducible show wpAny _ _ (eval (PySem.Expr.ListComp _ _ _ _) _) _ _ _))
    (fail_if_success (with_reducible show wpAny _ _ (exec (Stmt.Assign _ (PySem.Expr.ListComp _ _ _ _) _) _) _ _ _))
    (fail_if_success (with_reducible show LCg.CompSrc _ _ _ _ _ _ _ _ _ _ _ _ _ _))
    (fail_if_success (with_reducible show LCg.CompRest _ _ _ _ _ _ _ _ _ _ _ _ _ _ _ _ _ _ _))
    (fail_if_success (with_reducible show LCg.CompEnd _ _ _ _ _ _ _ _ _ _ _ _ _ _))
    (fail_if_success (with_reducible show ItEnd _ _ _ _ _ _ _ _ _ _ _))
    (fail_if_success (with_reducible show wpAny _ _ (call (Value.type "reversed") _) _ _ _))
    (fail_if_success (with_reducible show KswEnd _ _ _ _ _ _ _ _ _ _ _ _))
    (fail_if_success (k_extra "m:stop"))
    first | (k_unfold; (try dsimp only)) | ((with_reducible show wpAny _ _ (execs (_ :: _) _) _ _ _); k_fold) | k_extra "m:own" | walk1 | (dsimp only; walk1) | (leave1; walk_say "STEP leave1"; try dsimp only) | fail "no step")
  trivial
section
open PyProof.Rows.LCg (NsObj lst)
/-- as ConK, for a caller that stands alone -/
noncomputable abbrev ConN (w : World) (mean : ExcName → Option Value) (mg mb : Str → Option Value) (f : Addr) (dn un' : Nat) (news : Led) (args : List Value) (kw : List (Str × Value)) (Ret : Value → Led → Prop) : Prop :=
  ∀ (dp un : Nat) (gd : Option (List Code)) (cn : Str) (cs : Scope) (a : Addr) (ccd : Value) (cl : List (Str × Addr)) (A₀ : Around) (base h₀ : Heap) (L : Addr) (m : Str → Option Value) (s : Shared) (Q E : Value → Shared → Prop),
    Below A₀ base [] h₀ → Fr h₀ L s.heap m → (hd.heap_1 w.params).In h₀ → News h₀ L s.heap news → Top q0 (looseW q0 loose0) mean mg mb h₀ → cs.kind = .function →
    dp + dn < recursionLimit → un + un' < cLine →
    (∀ r news' h' tk', Fr h₀ L h' m → News h₀ L h' news' → Ret r news' → Q r { s with heap := h', toks := tk' }) →
    wpAny (model PySem.Challenge.rw_nq0173_01.row.prog w) (ktrTop dp un gd cn cs L a ccd cl []) (call (.ref f) args kw) Q E s
/-- nlargest, called from a frame that stands alone -/
theorem nl2_con {w : World} {mean : ExcName → Option Value} {mg mb : Str → Option Value} {rest : Led} {l J : Addr} {xs : List (Str × Tok)} {n k : Nat} {t : Tok} (hk2 : 2 ≤ k) (hk6 : k ≤ 6) (hlen : xs.length < 1000) (hkx : k ≤ xs.length) (offJ : ∀ p ∈ (l, listOf (xs.map strO.val).toArray n) :: rest, p.1 ≠ J) {kf : Str → Str} (hnd : (nlAll kf k xs).1.Nodup) (hkey : ∀ x ∈ xs, ∀ nw, Con w mean mg mb 111 4 32 nw [strO.val x] (fun r nw' => (∃ t, r = .str (kf x.1) t) ∧ nw' = nw))
    : ConN w mean mg mb 193 9 70 ((J, lstIt l 0) :: (l, listOf (xs.map strO.val).toArray n) :: rest) [.int (k : Nat) t, .ref J] [(Str.ofString "key", .ref 111)] (fun r news' => ∃ (D' : Addr) (zs : List (Str × Tok)) (c : Nat) (res : List Core), r = .ref D' ∧ news' = (D', listOf (zs.map strO.val).toArray c) :: (l, listOf (xs.map strO.val).toArray n) :: rest ∧ AllLt D' ((l, listOf (xs.map strO.val).toArray n) :: rest) ∧ List.Perm res (nlAll kf k xs).1 ∧ List.Pairwise (fun a b => Core.less b a = true) res ∧ zs.map (·.1) = res.map (·.2.2)) := by
  have mk16 : True := .intro
  unfold ConN
  k_fill
  intro dp un gd cn cs a ccd cl A₀ base h₀ L m s Q E B F X N T hk hd hu hret
  refine wpAny_call ?_
  k_dflt (refine' code_defR ?k1 ?k2 ?k3 ?k4 ?k5 ?kA ?kF ?kK ?k6 ?k7 ?k8 ?k9 ?kB ?kD ?_ ?c2 ?c3 ?c4; (case kA => exact rfl); (case kF => exact rfl); (case kK => assumption); (case k1 => k_asm); (case k2 => k_asm); (case k3 => k_asm); (case k4 => k_asm); (case k5 => k_asm); (case k6 => k_is); (case k7 => k_is); (case k8 => ktr_room); (case k9 => exact binds_K (by k_in) rfl (by k_is) rfl rfl rfl); (case kB => exact rfl); (case kD => decide +kernel); (case c2 => exact rfl); (case c3 => exact rfl); (case c4 => exact rfl); k_whole; intro g' L' h' tk' cells' FG' F' N' Y' B' X' T' l1'; k_cells Y'; (try simp only [List.cons_append, List.nil_append] at N'); (try dsimp only); (try k_lift B'); (try k_fold))
  refine toks_any fun tk0 => ?_
  k_with "m:stop" => ((fail_if_success fail_if_success clear mk16); ((with_reducible show wpAny _ _ (exec (Stmt.Try _ _ _ _ _) _) _ _ _)))
  k_with "m:stop" => ((fail_if_success fail_if_success clear mk16); ((with_reducible show wpAny _ _ (call (Value.builtin "len") _) _ _ _)))
  k_with "m:own" => ((fail_if_success fail_if_success clear mk16); ((exfalso; lia)))
  k_extra "m:steps"
  (rename News _ _ _ _ => Nn)
  (rename Obj => oc)
  have dc : oc.data = Data.cell (some (.ref 111)) := by assumption
  refine wpAny_Try_except ?_
  k_extra "m:steps"
  have hitJ := (Nn _ (.tail _ (.head _))).1
  k_dflt (refine len_it_raises (I := J) (l := l) (i := 0) (by rfl) ⟨_, hitJ, rfl, rfl⟩ ?_)
  intro h9 tk9 e9 hx9
  dsimp only
  k_dflt (refine' caught2 (K := Mine.hd.heap_1 w.params) (env := envX cn cs L a ccd cl) (m := m) ?k1 ?k2 ?k3 ?k4 F' Nn B' FG' X T ?k5 hx9 ?k6 ?k7 ?k8 ?k9 ?_; (case k1 => exact rfl); (case k2 => exact rfl); (case k3 => exact rfl); (case k4 => exact hk); (case k5 => exact B.stays); (case k6 => k_is); (case k7 => k_is); (case k8 => exact rfl); (case k9 => exact rfl))
  clear F' Nn B' FG' X' T' hx9
  intro g' h' FG' F' N' B' X' T'
  dsimp only
  k_with "m:own" => ((fail_if_success fail_if_success clear mk16); (((with_reducible show wpAny _ _ (call (Value.builtin "iter") [Value.ref _]) _ _ _); k_dflt (refine' iter_it_led ?k2 ?k3 ?_; (case k2 => k_asm); (case k3 => k_mem); k_whole))))
  k_with "m:stop" => ((fail_if_success fail_if_success clear mk16); ((with_reducible show wpAny _ _ (call (Value.type "zip") _) _ _ _)))
  k_extra "m:steps"
  have offJ' : ∀ p ∈ (L' + 1, oc) :: (l, listOf (xs.map strO.val).toArray n) :: rest, p.1 ≠ J := List.forall_mem_cons.mpr ⟨Nat.ne_of_gt (Nat.lt_succ_of_lt (l1' _ (.head _))), offJ⟩
  (rename Fr _ _ _ _ => Fn)
  (rename News _ _ _ _ => Nn)
  k_dflt (refine cg_assign Fn (by with_unfolding_all rfl) (by with_unfolding_all rfl) (by decide) (by rfl) (by decide) (by rfl) (by rfl) ?_)
  k_extra "m:steps"
  (rename IsRange _ _ _ _ _ _ _ _ => hr9)
  have hsm9 : Builtin.Range.small 0 (-(k : Int)) (-1) = true := range_small2 (by lia) (by lia)
  have hrs9 : Builtin.Range.rangeSize 0 (-(k : Int)) (-1) = (k : Nat) := range_size2 (by lia)
  k_dflt (refine' cg_zipR (ys := xs.map strO.val) (n := k) ?k1 ?k2 ?k3 ?kB ?kC ?k4 hr9 hsm9 hrs9 ?k5 ?k6 ?k7 ?k8 ?k9 ?kA (fun i ys nw => ∃ ts rs, Trs kf xs 0 (-1) i ts ∧ ys = ts.map tupO.val ∧ nw = (L' + 1, oc) :: (l, listOf (xs.map strO.val).toArray n) :: rs ∧ (∀ p ∈ tents ts ++ rest, p ∈ rs) ∧ ∀ p ∈ rs, p.1 ≠ J) ?kJ ?turn ?fin; (case k1 => exact rfl); (case k2 => k_asm); (case k3 => exact news_swap (by k_asm)); (case k4 => k_mem); (case k5 => simp; lia); (case k6 => simp; unfold sizeLine; lia); (case k7 => exact rfl); (case k8 => exact rfl); (case k9 => decide); (case kA => exact rfl); (case kJ => exact ⟨[], rest, Trs.nil, rfl, rfl, fun _ hp => hp, fun p hp => offJ' p (.tail _ (.tail _ hp))⟩); (case kB => exact ⟨rfl, rfl⟩); (case kC => exact offJ'))
  case turn =>
    intro i zs nw hi hG14 I1 o1 I2 o2 I3 o3 I4 o4 o5 C oC D m₂ h tk E' hG15 hy hC F9 N9 off9
    refine gen_P fun R9 hR9 => ?_
    obtain ⟨ts, rs, hts, rfl, rfl, hrs, hrI⟩ := hG14
    obtain ⟨t9, hx⟩ := hG15
    refine of_P hR9 ?_
    clear hR9 R9
    rw [getD_strs (by lia)] at hy
    refine tests_go ?_
    k_extra "m:steps"
    k_dflt (refine' Con.useT ?k1 ?k2 ?k3 ?k4 ?k5 ?k6 (hkey (xs.getD i default) (getD_mem (by lia)) _) ?k7 ?k8 ?_)
    k_extra "m:use"
    intro t8 h' tk' F' N'
    k_extra "m:steps"
    (rename Fr _ _ _ _ => Fn)
    (rename News _ _ _ _ => Nn)
    (rename _ ∧ _ ∧ _ ∧ _ ∧ _ ∧ _ ∧ _ ∧ _ ∧ _ ∧ AllLt _ _ => lz)
    have lzz := apt_new (own := [(I1, o1), (I2, o2), (I3, o3), (I4, o4), (J, o5)]) (C := C) (oC := oC) (D := D) (oD := lst (ts.map tupO.val)) (nw := (L' + 1, oc) :: (l, listOf (xs.map strO.val).toArray n) :: rs) (allLt_out lz)
    exact cg_end _ Fn Nn (fun p hp => mem_rot (xs := [_, _, _, _, _, _, _, _, _]) hp) (apt_ins off9 lzz) (fun p hp => by rw [List.mem_singleton.mp hp]; exact .tail _ (.head _)) ⟨_, _, hts.snoc, snoc_val, rfl, tents_snoc hrs, List.forall_mem_cons.mpr ⟨fun e => lzz.1 (e ▸ .tail _ (.tail _ (.tail _ (.tail _ (.head _))))), hrI⟩⟩
  case fin =>
    generalize hfin9 : nlAll kf k xs = fin9 at *
    unfold nlAll at hfin9
    intro D zs nw g o ho hP9 offD ltD h9 tk9 F9 N9
    refine gen_P fun R9 hR9 => ?_
    obtain ⟨ts, rs, hts, q1, q2, hrs, hrI⟩ := hP9
    subst q1 q2
    refine of_P hR9 ?_
    clear hR9 R9
    have hts2 := hts.length
    k_extra "m:steps"
    (rename News _ _ _ _ => Nn)

    k_dflt (refine' Con.use2 ?k1 ?k2 ?k3 ?k4 ?k5 ?k6 (heapify_con (l := D) (xs := ts) (n := (ts.map tupO.val).length) tupO offD ?c1 ?c2) ?k7 ?k8 ?_)
    k_extra "m:use"
    (case c1 => exact tents_ok fun p hp => .tail _ (.tail _ (.tail _ (hrs _ (List.mem_append_left _ hp)))))
    (case c2 => lia)
    intro h' tk' F' N'
    have hok9 := hfy_ok (O := tupO) (lt := tupO.lt) (rest := rs) (ts.length / 2) ts (tents_ok fun p hp => hrs _ (List.mem_append_left _ hp)) (by lia)
    have hlen9 : (hfy tupO.lt (ts.length / 2) ts).length = k := (hfy_length _ _).trans hts2
    have hcore9 : (hfy tupO.lt (ts.length / 2) ts).map Tup.core = hfy (fun a b => Core.less a b) (k / 2) ((List.range k).map fun (j : Nat) => (kf (xs.getD j default).1, 0 + (j : Int) * (-1), (xs.getD j default).1)) := by
      rw [hfy_map (f := Tup.core) (lt := tupO.lt) (lt' := fun a b => Core.less a b) core_default (fun _ _ => rfl), hts, hts2]
    generalize hfy tupO.lt (ts.length / 2) ts = hs at *
    have hlen0 : 0 < hs.length := by lia
    have hlen1 : hs.length < 1000 := by lia
    k_extra "m:steps"
    (rename News _ _ _ _ => Nn)
    have hx0 := hok9 _ (get!_mem hlen0)
    generalize hx0e : hs[0]! = x0 at *
    revert x0
    refine elimT ?_
    intro T0 k0 tk0' i0 ti0 e0 te0 hx0e hx0
    have Nn2 := news_add Nn (.tail _ (.tail _ (.tail _ (.tail _ hx0))))
    have ev0 : tupO.val (T0, (k0, tk0'), (i0, ti0), (e0, te0)) = Value.ref T0 := rfl
    rw [ev0]
    clear Nn
    k_extra "m:steps"
    (rename Fr _ _ _ _ => Fn)
    (rename News _ _ _ _ => Nn)
    have offI9 : ∀ p ∈ (D, listOf (hs.map tupO.val).toArray (ts.map tupO.val).length) :: (L' + 1, oc) :: (l, listOf (xs.map strO.val).toArray n) :: rs, p.1 ≠ J := List.forall_mem_cons.mpr ⟨fun e => offD _ (.head _) e.symm, List.forall_mem_cons.mpr ⟨offJ' _ (.head _), List.forall_mem_cons.mpr ⟨offJ' _ (.tail _ (.head _)), hrI⟩⟩⟩
    have Nn3 : News _ _ _ ((J, o) :: (D, listOf (hs.map tupO.val).toArray (ts.map tupO.val).length) :: (L' + 1, oc) :: (l, listOf (xs.map strO.val).toArray n) :: rs) := news_perm Nn fun p hp => by
      rcases List.mem_cons.mp hp with rfl | hp
      · exact .tail _ (.tail _ (.head _))
      · rcases List.mem_cons.mp hp with rfl | hp
        · exact .tail _ (.head _)
        · exact .tail _ (.tail _ (.tail _ hp))
    clear Nn
    k_dflt (refine For_turns Fn ?_)
    k_with "m:stop" => ((fail_if_success fail_if_success clear mk16); ((with_reducible show wpAny _ _ (pyIter (Value.ref _)) _ _ _)))
    k_extra "m:steps"
    k_dflt (refine' iter_fromTurns (vs := xs.map strO.val) (n := n) (k := k) ?k1 ?k2 ?k3 ho ?k4 ?k5 offI9 ?_; (case k1 => exact rfl); (case k2 => k_asm); (case k3 => k_asm); (case k4 => simp; lia); (case k5 => k_mem))
    clear Fn Nn3
    k_dflt (refine items_st (σ := List Tup × (Str × Tok) × (Int × Tok) × Led) (fun c => (D, listOf (c.1.map tupO.val).toArray (ts.map tupO.val).length) :: (L' + 1, oc) :: (l, listOf (xs.map strO.val).toArray n) :: c.2.2.2) (fun c => [(Str.ofString "top", .str c.2.1.1 c.2.1.2), (Str.ofString "order", .int c.2.2.1.1 c.2.2.1.2)]) [Str.ofString "elem", Str.ofString "k", Str.ofString "top", Str.ofString "order", Str.ofString "_order", Str.ofString "_elem"] (fun items c => ∃ ys : List (Str × Tok), items = ys.map (fun x => Itm.val (.str x.1 x.2)) ∧ (∀ y ∈ ys, y ∈ xs) ∧ c.1.length = k ∧ (∀ y ∈ c.1, tupO.ok c.2.2.2 y) ∧ (∀ p ∈ rest, p ∈ c.2.2.2) ∧ (∀ p ∈ (L' + 1, oc) :: (l, listOf (xs.map strO.val).toArray n) :: c.2.2.2, p.1 ≠ J ∧ p.1 ≠ D) ∧ c.2.1.1 = (c.1[0]!).2.1.1 ∧ (ys.map (·.1)).foldl (topStep (fun a b => Core.less a b) (fun a b => sless b a) (-1) kf) (c.1.map Tup.core, c.2.2.1.1) = fin9) ?turn2 ?done2 _ (hs, (k0, tk0'), (-(k : Int), _), rs) _ ⟨xs.drop k, ?i1, ?i2, ?i3, ?i4, ?i5, ?i6, ?i7, ?i8⟩ (List.forall_mem_cons.mpr ⟨rfl, List.forall_mem_cons.mpr ⟨rfl, List.forall_mem_nil _⟩⟩) (fun _ _ _ => rfl))
    case i1 => simp [strO, Function.comp_def]
    case i2 => exact fun y hy => List.mem_of_mem_drop hy
    case i3 => exact hlen9
    case i4 => exact hok9
    case i5 => exact fun p hp => hrs p (List.mem_append_right _ hp)
    case i6 => exact fun p hp => ⟨offI9 p (.tail _ hp), offD p (.tail _ hp)⟩
    case i7 => dsimp only; rw [hx0e]
    case i8 => dsimp only; rw [hcore9]; exact hfin9
    case turn2 =>
      clear offI9 hx0 hx0e ev0 hcore9 hok9 hlen9 hlen0 hlen1 hs
      intro a9 r
      refine elimS ?_
      intro hs tp ttp od tod rs9 u v h tk hP9 hv F9 o9 ho9 N9
      refine gen_P fun R9 hR9 => ?_
      obtain ⟨ys, e1, e2, e3, e4, e5, e6, e7, e8⟩ := hP9
      cases ys with
      | nil => cases e1
      | cons y ys =>
        cases e1
        have hv' : v = .str y.1 y.2 := hv
        subst hv'
        refine of_P hR9 (gen_body fun R8 hR8 => ?_)
        clear hR9 R9
        k_with "m:own" => ((fail_if_success fail_if_success clear mk16); ((refine of_Q hR8 ?_; (try dsimp only))))
        have N9' : News _ _ _ ((J, o9) :: (D, listOf (hs.map tupO.val).toArray (ts.map tupO.val).length) :: (L' + 1, oc) :: (l, listOf (xs.map strO.val).toArray n) :: rs9) := N9
        clear N9
        dsimp only [kstB] at *
        k_extra "m:steps"
        k_dflt (refine' Con.useT ?k1 ?k2 ?k3 ?k4 ?k5 ?k6 (hkey y (e2 y (.head _)) _) ?k7 ?k8 ?_)
        k_extra "m:use"
        intro t8 h' tk' F' N'
        k_extra "m:steps"
        · (rename Fr _ _ _ _ => Fn)
          (rename News _ _ _ _ => Nn)
          (rename _ ∧ _ ∧ _ ∧ _ ∧ AllLt _ _ => lz)
          (rename Addr => T9)
          (rename _ < _ => hlt)
          have offI := offD _ (.head _)
          k_dflt (refine' Con.use2 ?k1 ?k2 ?k3 (news_perm (b := (D, listOf (hs.map tupO.val).toArray (ts.map tupO.val).length) :: (T9, Tup.obj (T9, (kf y.1, t8), (od, tod), y)) :: (J, o9) :: (L' + 1, oc) :: (l, listOf (xs.map strO.val).toArray n) :: rs9) Nn ?kp) ?k5 ?k6 (heapreplace_con (l := D) (xs := hs) (x := (T9, (kf y.1, t8), (od, tod), y)) (n := (ts.map tupO.val).length) tupO ?c0 ?c1 ?c2 ?c3 ?c4) ?k7 ?k8 ?_)
          (case k1 => k_asm); (case k2 => k_asm); (case k3 => k_asm); (case k5 => k_asm); (case k6 => exact rfl); (case k7 => ktr_room); (case k8 => ktr_units)
          (case kp => exact List.forall_mem_cons.mpr ⟨.tail _ (.tail _ (.head _)), List.forall_mem_cons.mpr ⟨.head _, List.forall_mem_cons.mpr ⟨.tail _ (.head _), fun p hp => .tail _ (.tail _ (.tail _ hp))⟩⟩⟩)
          (case c0 => exact List.forall_mem_cons.mpr ⟨Nat.ne_of_gt lz.2.1, List.forall_mem_cons.mpr ⟨offI, fun p hp => (e6 p hp).2⟩⟩)
          (case c1 => exact fun z hz => .tail _ (.tail _ (.tail _ (.tail _ (e4 z hz)))))
          (case c2 => exact .head _)
          (case c3 => lia)
          (case c4 => lia)
          intro h' tk' F' N'
          have hok9 := sup_ok (O := tupO) (lt := tupO.lt) (rest := (T9, Tup.obj (T9, (kf y.1, t8), (od, tod), y)) :: rs9) (xs := hs.set 0 (T9, (kf y.1, t8), (od, tod), y)) (p := 0) (ok_set (fun z hz => .tail _ (e4 z hz)) (.head _)) (by simp; lia)
          have hlen9 : (sup tupO.lt (hs.set 0 (T9, (kf y.1, t8), (od, tod), y)) 0).length = k := by rw [sup_length, List.length_set]; exact e3
          have hst9 := topStep_hit (lt := tupO.lt) (lt' := fun a b => Core.less a b) (fun _ _ => rfl) (cmp := fun a b => sless b a) (d := -1) (hs := hs) (x := (T9, (kf y.1, t8), (od, tod), y)) rfl (by rw [← e7]; exact decide_eq_true hlt)
          rw [List.map_cons, List.foldl_cons, hst9] at e8
          generalize sup tupO.lt (hs.set 0 (T9, (kf y.1, t8), (od, tod), y)) 0 = hs2 at *
          have hlen0 : 0 < hs2.length := by lia
          have hlen1 : hs2.length < 1000 := by lia
          k_extra "m:steps"
          (rename News _ _ _ _ => Nn)
          have hx0 := hok9 _ (get!_mem hlen0)
          generalize hx0e : hs2[0]! = x0 at *
          revert x0
          refine elimT ?_
          intro T0 k0 tk0' i0 ti0 e0 te0 hx0e hx0
          have hx0m : (T0, Tup.obj (T0, (k0, tk0'), (i0, ti0), (e0, te0))) ∈ (D, listOf (hs2.map tupO.val).toArray (ts.map tupO.val).length) :: (T9, Tup.obj (T9, (kf y.1, t8), (od, tod), y)) :: (J, o9) :: (L' + 1, oc) :: (l, listOf (xs.map strO.val).toArray n) :: rs9 := by
            rcases List.mem_cons.mp hx0 with e | h
            · rw [show (T0, Tup.obj (T0, (k0, tk0'), (i0, ti0), (e0, te0))) = (T9, Tup.obj (T9, (kf y.1, t8), (od, tod), y)) from e]; exact .tail _ (.head _)
            · exact .tail _ (.tail _ (.tail _ (.tail _ (.tail _ h))))
          have Nn2 := news_add Nn hx0m
          have ev0 : tupO.val (T0, (k0, tk0'), (i0, ti0), (e0, te0)) = Value.ref T0 := rfl
          rw [ev0]
          clear Nn
          k_extra "m:steps"
          (rename Fr _ _ _ _ => Fn)
          (rename News _ _ _ _ => Nn)
          refine it_next ?_
          exact it_end (hs2, (k0, tk0'), (od + -1, _), (T9, Tup.obj (T9, (kf y.1, t8), (od, tod), y)) :: rs9) Fn Nn
            (List.forall_mem_cons.mpr ⟨.tail _ (.tail _ (.tail _ (.head _))), List.forall_mem_cons.mpr ⟨.tail _ (.head _), List.forall_mem_cons.mpr ⟨.tail _ (.tail _ (.tail _ (.tail _ (.head _)))), List.forall_mem_cons.mpr ⟨.tail _ (.tail _ (.tail _ (.tail _ (.tail _ (.head _))))), List.forall_mem_cons.mpr ⟨.tail _ (.tail _ (.head _)), fun p hp => .tail _ (.tail _ (.tail _ (.tail _ (.tail _ (.tail _ hp)))))⟩⟩⟩⟩⟩)
            (fun p hp q hq => by
              rw [List.mem_singleton.mp hq]
              exact (List.forall_mem_cons.mpr ⟨fun e => offI e.symm, List.forall_mem_cons.mpr ⟨(e6 _ (.head _)).1, List.forall_mem_cons.mpr ⟨(e6 _ (.tail _ (.head _))).1, List.forall_mem_cons.mpr ⟨Nat.ne_of_gt lz.1, fun p hp => (e6 p (.tail _ (.tail _ hp))).1⟩⟩⟩⟩ : ∀ p ∈ (D, listOf (hs2.map tupO.val).toArray (ts.map tupO.val).length) :: (L' + 1, oc) :: (l, listOf (xs.map strO.val).toArray n) :: (T9, Tup.obj (T9, (kf y.1, t8), (od, tod), y)) :: rs9, p.1 ≠ J) p hp)
            (fun p hp => by rw [List.mem_singleton.mp hp]; exact .tail _ (.tail _ (.head _))) (List.forall_mem_cons.mpr ⟨rfl, List.forall_mem_cons.mpr ⟨rfl, List.forall_mem_nil _⟩⟩) (by k_extra "m:same")
            ⟨ys, rfl, fun z hz => e2 z (.tail _ hz), hlen9, hok9, fun p hp => .tail _ (e5 p hp), List.forall_mem_cons.mpr ⟨e6 _ (.head _), List.forall_mem_cons.mpr ⟨e6 _ (.tail _ (.head _)), List.forall_mem_cons.mpr ⟨⟨Nat.ne_of_gt lz.1, Nat.ne_of_gt lz.2.1⟩, fun p hp => e6 p (.tail _ (.tail _ hp))⟩⟩⟩, by dsimp only; rw [hx0e], e8⟩
        · (rename Fr _ _ _ _ => Fn)
          (rename News _ _ _ _ => Nn)
          (rename ¬ _ < _ => hlt)
          have hst9 := topStep_miss (lt' := fun a b => Core.less a b) (cmp := fun a b => sless b a) (d := -1) (kf := kf) (od := od) (y := y.1) (hs := hs) (by rw [← e7]; exact decide_eq_false hlt)
          rw [List.map_cons, List.foldl_cons, hst9] at e8
          refine it_next ?_
          exact it_end (hs, (tp, ttp), (od, tod), rs9) Fn Nn (fun p hp => hp) (fun p hp q hq => by
            rw [List.mem_singleton.mp hq]
            rcases List.mem_cons.mp hp with rfl | hp
            · exact fun e => offD _ (.head _) e.symm
            · exact (e6 p hp).1) (fun p hp => by rw [List.mem_singleton.mp hp]; exact .tail _ (.tail _ (.head _))) (List.forall_mem_cons.mpr ⟨rfl, List.forall_mem_cons.mpr ⟨rfl, List.forall_mem_nil _⟩⟩) (by k_extra "m:same")
            ⟨ys, rfl, fun z hz => e2 z (.tail _ hz), e3, e4, e5, e6, e7, e8⟩
    case done2 =>
      clear offI9 hx0 hx0e ev0 hcore9 hok9 hlen9 hlen0 hlen1 hs
      refine elimS ?_
      intro hs tp ttp od tod rs9 u h tk hP9 F9 N9
      refine gen_P fun R9 hR9 => ?_
      obtain ⟨ys, e1, e2, e3, e4, e5, e6, e7, e8⟩ := hP9
      have er : ys = [] := by cases ys with | nil => rfl | cons _ _ => cases e1
      subst er
      refine of_P hR9 ?_
      clear hR9 R9
      dsimp only [kstB] at *
      k_extra "m:steps"
      have hfin : hs.map Tup.core = fin9.1 := by rw [← e8]; rfl
      (rename News _ _ _ _ => Nn)
      (rename Fr _ _ _ _ => Fn)
      k_dflt (refine callWith_kw0 ?_)
      k_with "m:stop" => ((fail_if_success fail_if_success clear mk16); ((with_reducible show wpAny _ _ (call (Value.builtin "list.sort") _ _) _ _ _)))
      k_extra "m:steps"
      k_dflt (refine' tsort_rev (D := D) (ts := hs) ?k1 ?k2 ?k3 ?k4 ?k5 ?k6 ?k7 ?_; (case k1 => k_asm); (case k2 => k_asm); (case k3 => exact fun p hp => (e6 p hp).2); (case k4 => exact fun z hz => .tail _ (.tail _ (e4 z hz))); (case k5 => lia); (case k6 => lia); (case k7 => rw [hfin]; exact hnd))
      intro ts2 c2 h2' hp2 hs2 F2 N2
      have hl2 : ts2.length = k := hp2.length_eq.trans e3
      have hok2 : ∀ z ∈ ts2, tupO.ok rs9 z := fun z hz => e4 z (hp2.mem_iff.mp hz)
      clear Fn Nn
      k_extra "m:steps"
      (rename Fr g' _ _ _ => Fn)
      k_dflt (refine cg_eval Fn (by with_unfolding_all rfl) (by decide) (by rfl) (by decide) ?_)
      k_extra "m:steps"
      k_dflt (refine' cg_trips (l := D) (ts := ts2) (k := c2) ?k1 ?k2 ?k3 ?k4 ?k5 ?k6 ?k7 ?k8 ?k9 ?kA ?kB ?kC ?kD (fun i ys nw => ys = (ts2.take i).map (fun t => .str t.2.2.2.1 t.2.2.2.2) ∧ nw = (D, listOf (ts2.map tupO.val).toArray c2) :: (L' + 1, oc) :: (l, listOf (xs.map strO.val).toArray n) :: rs9) ?kJ ?turn3 ?fin3; (case k1 => exact rfl); (case k2 => k_asm); (case k3 => k_asm); (case k4 => k_mem); (case k5 => exact fun z hz => .tail _ (.tail _ (.tail _ (hok2 z hz)))); (case k6 => unfold sizeLine; lia); (case k7 => exact rfl); (case k8 => exact rfl); (case k9 => exact rfl); (case kA => decide); (case kB => decide); (case kC => decide); (case kD => exact rfl); (case kJ => exact ⟨rfl, rfl⟩))
      case turn3 =>
        refine two_turn ?_
        intro i hi I oI C oC D2 m₂ h tk E' hz hC F9 N9 off9
        refine tests_go ?_
        k_extra "m:steps"
        (rename Fr _ _ _ _ => Fn)
        (rename News _ _ _ _ => Nn)
        exact cg_end _ Fn Nn (fun p hp => hp) off9 (List.forall_mem_cons.mpr ⟨.head _, fun p hp => by
          obtain ⟨t9, ht9, rfl⟩ := List.mem_map.mp hp
          exact .tail _ (.tail _ (.tail _ (hok2 t9 ht9)))⟩) ⟨by rw [List.take_succ_eq_append_getElem hi, List.map_append]; rfl, rfl⟩
      case fin3 =>
        refine two_fin ?_
        intro D2 g offD2 ltD2 h9 tk9 F9 N9
        obtain ⟨Fn, Nn⟩ := leave_ground FG' F9 N9
        k_extra "m:steps"
        rw [List.take_length] at Nn
        refine hret _ ((D2, listOf ((ts2.map fun t => (t.2.2.2.1, t.2.2.2.2)).map strO.val).toArray ts2.length) :: (l, listOf (xs.map strO.val).toArray n) :: rest) _ _ Fn ?_ ⟨D2, ts2.map fun t => (t.2.2.2.1, t.2.2.2.2), ts2.length, ts2.map Tup.core, rfl, rfl, ?_, ?_, ?_, ?_⟩
        · have e9 : lst (ts2.map fun t => Value.str t.2.2.2.1 t.2.2.2.2) = listOf ((ts2.map fun t => (t.2.2.2.1, t.2.2.2.2)).map strO.val).toArray ts2.length := by
            rw [List.map_map]; show listOf _ _ = listOf _ _; rw [List.length_map]; rfl
          rw [e9] at Nn
          refine news_perm Nn (List.forall_mem_cons.mpr ⟨.head _, List.forall_mem_cons.mpr ⟨.tail _ (.tail _ (.tail _ (.head _))), fun p hp => .tail _ (.tail _ (.tail _ (.tail _ (e5 p hp))))⟩⟩)
        · exact allLt_of (List.forall_mem_cons.mpr ⟨ltD2 _ (.tail _ (.tail _ (.head _))), fun p hp => ltD2 _ (.tail _ (.tail _ (.tail _ (e5 p hp))))⟩)
        · rw [← hfin]; exact hp2.map _
        · rw [List.pairwise_map]; exact hs2
        · rw [List.map_map, List.map_map]; rfl

end

-- text: Ns6
theorem ns6_con {w : World} {mean : ExcName → Option Value} {mg mb : Str → Option Value} {rest : Led} {l : Addr} {xs : List (Str × Tok)} {n : Nat} {t : Tok} {p : Array Nat} (hx6 : xs.length = 6) {kf : Str → Str}
    (hrun : runL (fun i j => sless (kf (xs.getD i default).1) (kf (xs.getD j default).1)) xs.length (kas_sort xs.length) = some p) (hin : ∀ i ∈ p.toList, i < xs.length) (hp6 : p.toList.length = 6)
    (hkey : ∀ x ∈ xs, ∀ nw, Con w mean mg mb 111 4 32 nw [strO.val x] (fun r nw' => (∃ t, r = .str (kf x.1) t) ∧ nw' = nw)) :
    ConK w mean mg mb 187 9 70 ((l, listOf (xs.map strO.val).toArray n) :: rest) [.int (6 : Nat) t, .ref l] [(Str.ofString "key", .ref 111)] (fun r news' => ∃ (D' : Addr) (zs : List (Str × Tok)) (c : Nat), r = .ref D' ∧ news' = (D', listOf (zs.map strO.val).toArray c) :: (l, listOf (xs.map strO.val).toArray n) :: rest ∧ AllLt D' ((l, listOf (xs.map strO.val).toArray n) :: rest) ∧ zs = p.toList.map fun i => xs.getD i default) := by
  have mk17 : True := .intro
  unfold ConK
  k_fill
  intro dp un gd cn cs a ccd cl outer A₀ base h₀ L m s Q E B F X N T hk hd hu hret
  refine wpAny_call ?_
  k_dflt (k_extra "m:enterD")
  refine toks_any fun tk0 => ?_
  k_with "m:own" => ((fail_if_success fail_if_success clear mk17); (((with_reducible show wpAny _ _ (exec (Stmt.Try _ (_ :: _) _ [] _) _) _ _ _); refine wpAny_Try_except ?_)))
  k_with "m:own" => ((fail_if_success fail_if_success clear mk17); ((exfalso; lia)))
  k_with "m:stop" => ((fail_if_success fail_if_success clear mk17); ((with_reducible show wpAny _ _ (call (Value.builtin "sorted") _ _) _ _ _)))
  k_extra "m:steps"
  (rename Fr _ _ _ _ => Fn)
  (rename News _ _ _ _ => Nn)
  k_dflt (refine' sortedK_led (kf := kf) (xs := xs) (p := p) Fn Nn ?k3 ?k4 ?k5 hrun hin ?hc ?_; (case k3 => k_mem); (case k4 => lia); (case k5 => lia))
  case hc =>
    intro x h9 tk9 nw9 hx9 F9 N9
    clear Fn Nn
    k_dflt (refine' Con.useT ?k1 ?k2 ?k3 ?k4 ?k5 ?k6 (hkey x hx9 nw9) ?k7 ?k8 ?_)
    k_extra "m:use"
    intro t' h' tk' F' N'
    exact ⟨h', tk', t', rfl, rfl, F', N'⟩
  intro D9 c9 h9 tk9 F9 N9 lt9
  clear Fn Nn
  have hz9 : (p.toList.map fun i => xs.getD i default).length = 6 := by rw [List.length_map]; exact hp6
  generalize (p.toList.map fun i => xs.getD i default) = zs9 at *
  k_extra "m:steps"
  (rename Fr h₀ _ _ _ => Fz)
  (rename News h₀ _ _ _ => Nz)
  rw [List.take_of_length_le (by lia)] at Nz
  exact hret _ _ _ _ Fz (news_drop2 Nz) ⟨Dl', zs9, 0, rfl, rfl, allLt_of fun q hq => l1' q (.tail _ (.tail _ hq)), rfl⟩

-- text: ForR
section
variable {prog : Program} {w : World} {A : Around} {E : Value → Shared → Prop} {s : Shared} {env : Env} {h₀ : Heap} {target : PySem.Expr} {body : List Stmt} {Q : Flow → Shared → Prop}
theorem for_range {r : Addr} {n : Nat} {t u v : Tok} {m₀ : Str → Option Value} {news : Led} {x : Str} {px : Pos} (hh : A.handled = none) (F : Fr h₀ env.locals s.heap m₀) (N : News h₀ env.locals s.heap news) (hr : IsRange s.heap r 0 (n : Int) 1 t u v) (hn : n < 1000)
    (rest₀ : ∀ (I : Addr) (g : Heap), (∀ p ∈ news, p.1 < I) → ItemsRest prog w A E h₀ env (.Name x px) body Q { s with heap := g } [(I, "range_iterator")] [] (rangeItems 0 1 n) m₀ news) :
    wpAny (model prog w) A (pyIter (.ref r)) (fun it s₂ => TurnsAt prog w A h₀ env (.Name x px) body Q E it s₂) E s := by
  refine wpAny_pyIter_range hr (range_small hn) ?_
  rw [range_size1]
  have up : ∀ b o, s.heap.get? b = some o → (s.heap.push { cls := .type "range_iterator", data := .fields #[rawInt 0, rawInt (n : Int), rawInt 1] }).get? b = some o := fun b o e => Heap.get?_push_of_some _ e
  exact iter_rangeTurns (s := { s with heap := s.heap.push { cls := .type "range_iterator", data := .fields #[rawInt 0, rawInt (n : Int), rawInt 1] } }) (I := s.heap.objs.size) (a := 0) (c := 1) (n := n) hh (F.keeps up) (N.grown up) (Heap.get?_push_size _ rfl) (next_is_new F)
    (Nat.ne_of_lt F.ns.lt) (fun p hp => Nat.ne_of_lt (Heap.lt_size (N p hp).1)) (fun v => rfl) (rest₀ _ _ fun p hp => Heap.lt_size (N p hp).1)
end

-- text: FewA
section
open PyProof.Rows.LCg (NsObj lst)
/-- how many stand ahead of the owner at place j -/
noncomputable def ahead (g : Bool) (os : List Str) (j : Nat) : Nat := (os.filter fun one => if g then sless (os.getD j default) one else sless one (os.getD j default)).length + ((os.take j).filter fun one => decide (one = os.getD j default)).length
/-- the paths with k ahead -/
noncomputable def fewAt (g : Bool) (ps : List (Str × Tok)) (os : List Str) (k : Nat) : List (Str × Tok) := (List.range ps.length).filterMap fun j => if ahead g os j = k then some (ps.getD j default) else none
noncomputable def fewUpTo (g : Bool) (ps : List (Str × Tok)) (os : List Str) (k : Nat) : List (Str × Tok) := (List.range k).flatMap (fewAt g ps os)
/-- the same, of the places below j -/
noncomputable def fewTo (g : Bool) (ps : List (Str × Tok)) (os : List Str) (k j : Nat) : List (Str × Tok) := (List.range j).filterMap fun j => if ahead g os j = k then some (ps.getD j default) else none
theorem filt_hit {p : Str × Tok → Bool} {os : List (Str × Tok)} {i : Nat} (hi : i < os.length) (h : p (os.getD i default) = true) : ((os.take i).filter p).map strO.val ++ [.str (os.getD i default).1 (os.getD i default).2] = ((os.take (i + 1)).filter p).map strO.val := by
  have e : os[i] = os.getD i default := by simp [hi]
  rw [List.take_succ_eq_append_getElem hi, List.filter_append, List.map_append, e, List.filter_cons, h]
  rfl
theorem filt_miss {p : Str × Tok → Bool} {os : List (Str × Tok)} {i : Nat} (hi : i < os.length) (h : p (os.getD i default) = false) : ((os.take i).filter p).map strO.val = ((os.take (i + 1)).filter p).map strO.val := by
  have e : os[i] = os.getD i default := by simp [hi]
  rw [List.take_succ_eq_append_getElem hi, List.filter_append, e, List.filter_cons, h]
  simp
theorem fewTo_succ (g : Bool) (ps : List (Str × Tok)) (os : List Str) (k j : Nat) : fewTo g ps os k (j + 1) = fewTo g ps os k j ++ (if ahead g os j = k then [ps.getD j default] else []) := by
  unfold fewTo
  rw [List.range_succ, List.filterMap_append]
  congr 1
  by_cases h : ahead g os j = k
  · simp [h]
  · simp [h]
theorem fewUpTo_succ (g : Bool) (ps : List (Str × Tok)) (os : List Str) (k : Nat) : fewUpTo g ps os (k + 1) = fewUpTo g ps os k ++ fewTo g ps os k ps.length := by
  unfold fewUpTo
  rw [List.range_succ, List.flatMap_append]
  simp [fewAt, fewTo]
theorem fewTo_le (g : Bool) (ps : List (Str × Tok)) (os : List Str) (k j : Nat) : (fewTo g ps os k j).length ≤ j := by
  have := List.length_filterMap_le (fun j => if ahead g os j = k then some (ps.getD j default) else none) (List.range j)
  unfold fewTo
  simpa using this
theorem fewUpTo_le (g : Bool) (ps : List (Str × Tok)) (os : List Str) : ∀ k, (fewUpTo g ps os k).length ≤ k * ps.length
  | 0 => by simp [fewUpTo]
  | k + 1 => by
    have h1 := fewUpTo_le g ps os k
    have h2 := fewTo_le g ps os k ps.length
    rw [fewUpTo_succ, List.length_append, Nat.succ_mul]
    omega
theorem getD_fst (os : List (Str × Tok)) (j : Nat) : (os.map (·.1)).getD j default = (os.getD j default).1 := by
  rcases Nat.lt_or_ge j os.length with h | h
  · simp [h]
  · simp [h]; rfl
theorem ahead_eq {g : Bool} {os : List (Str × Tok)} {j : Nat} {bs as : List (Str × Tok)} (hB : os.filter (fun x => if g then sless (os.getD j default).1 x.1 else sless x.1 (os.getD j default).1) = bs) (hA : (os.take j).filter (fun x => decide (x.1 = (os.getD j default).1)) = as) : ahead g (os.map (·.1)) j = bs.length + as.length := by
  unfold ahead
  rw [getD_fst, List.filter_map, List.length_map, ← List.map_take, List.filter_map, List.length_map, ← hB, ← hA]
  rfl
theorem lt_at2 {I : Addr} {a b c : Addr} {o x x' y y' : Obj} {r : Led} (h : ∀ p ∈ (a, o) :: (b, x) :: (c, y) :: r, p.1 < I) : ∀ p ∈ (a, o) :: (b, x') :: (c, y') :: r, p.1 < I := by
  intro p hp
  rcases List.mem_cons.mp hp with rfl | hp
  · exact h _ (.head _)
  rcases List.mem_cons.mp hp with rfl | hp
  · exact h (b, x) (.tail _ (.head _))
  rcases List.mem_cons.mp hp with rfl | hp
  · exact h (c, y) (.tail _ (.tail _ (.head _)))
  · exact h _ (.tail _ (.tail _ (.tail _ hp)))
theorem lt_at2b {I : Addr} {b c : Addr} {x x' y y' : Obj} {r : Led} (h : ∀ p ∈ (b, x) :: (c, y) :: r, p.1 < I) : ∀ p ∈ (b, x') :: (c, y') :: r, p.1 < I := by
  intro p hp
  rcases List.mem_cons.mp hp with rfl | hp
  · exact h (b, x) (.head _)
  rcases List.mem_cons.mp hp with rfl | hp
  · exact h (c, y) (.tail _ (.head _))
  · exact h _ (.tail _ (.tail _ hp))
theorem off_two {I : Addr} {q1 q2 : Obj} {r : Led} (h : ∀ p ∈ r, p.1 < I) : ∀ p ∈ r, ∀ q ∈ [(I + 1, q1), (I, q2)], p.1 ≠ q.1 := by
  intro p hp q hq
  have := h p hp
  rcases List.mem_cons.mp hq with rfl | hq
  · exact Nat.ne_of_lt (Nat.lt_succ_of_lt this)
  · rw [List.mem_singleton.mp hq]; exact Nat.ne_of_lt this
theorem off_one {I : Addr} {q1 : Obj} {r : Led} (h : ∀ p ∈ r, p.1 < I) : ∀ p ∈ r, ∀ q ∈ [(I, q1)], p.1 ≠ q.1 := by
  intro p hp q hq
  rw [List.mem_singleton.mp hq]; exact Nat.ne_of_lt (h p hp)
noncomputable def fewF : Stmt := match PySem.Challenge.pw_nq0173_01.main.body[30]? with
  | some x => x
  | none => .Pass ⟨0, 0, 0, 0⟩
noncomputable def fewS : Scope := match fewF with
  | .FunctionDef _ _ _ _ _ _ scope .. => scope
  | _ => { kind := .function, names := [], isGenerator := false, isCoroutine := false }
/-- the body of the loop within the loop -/
noncomputable def fewI : List Stmt := match fewF with
  | .FunctionDef _ _ (_ :: .For _ _ (.For _ _ b .. :: _) .. :: _) .. => b
  | _ => []
noncomputable abbrev fewE (L : Addr) : Env := envOfC (Str.ofString "_law_few") fewS L 210 (.ref 209)
noncomputable abbrev fewWp (w : World) (A : Around) (L : Addr) (k : Nat) (Q : Flow → Shared → Prop) (E : Value → Shared → Prop) (s : Shared) : Prop :=
  wpAny (model PySem.Challenge.rw_nq0173_01.row.prog w) (A.deeper (fewE L)) (execs (fewI.drop k) (fewE L)) Q E s
section
variable {w : World} {mean : ExcName → Option Value} {mg mb : Str → Option Value} {h₀ : Heap} {L : Addr} {m : Str → Option Value} {s : Shared} {Q : Flow → Shared → Prop} {E : Value → Shared → Prop} {dp un : Nat} {gd : Option (List Code)} {cn : Str} {cs : Scope} {a L0 : Addr} {ccd : Value} {cl : List (Str × Addr)} {outer : List Env}
theorem few1 (hdp : dp + 3 < recursionLimit) (hu : un + 30 < cLine) (F : Fr h₀ L s.heap m) (T : Top q0 (looseW q0 loose0) mean mg mb h₀) {news : Led} (N : News h₀ L s.heap news) {O : Addr} {os : List (Str × Tok)} {oo og oj : Obj} {n2 j : Nat} {g : Bool} {tj : Tok} (ho : (L + 1, oo) ∈ news) (hg : (L + 1 + 1, og) ∈ news) (hj : (L + 1 + 1 + 1, oj) ∈ news) (dO : oo.data = .cell (some (.ref O))) (dG : og.data = .cell (some (.bool g))) (dJ : oj.data = .cell (some (.int (j : Nat) tj)))
    (hO : (O, listOf (os.map strO.val).toArray n2) ∈ news) (hjl : j < os.length) (hl : os.length < 100)
    (next : ∀ (h' : Heap) (tk' : Nat) (m' : Str → Option Value) (A' : Addr), Fr h₀ L h' m' → News h₀ L h' ((A', lst ((os.filter fun x => if g then sless (os.getD j default).1 x.1 else sless x.1 (os.getD j default).1).map strO.val)) :: news) → AllLt A' news → m' (Str.ofString "better") = some (.ref A') → (∀ z, z ≠ Str.ofString "better" → m' z = m z) → fewWp w (ktrTop dp un gd cn cs L0 a ccd cl outer) L 1 Q E { s with heap := h', toks := tk' }) :
    (hd.heap_1 w.params).In h₀ → fewWp w (ktrTop dp un gd cn cs L0 a ccd cl outer) L 0 Q E s := by
  have mk18 : True := .intro
  unfold fewWp at next ⊢
  k_fill
  intro X
  have eoj : strO.val os[j]! = .str (os.getD j default).1 (os.getD j default).2 := by simp [hjl, strO]
  k_with "m:own" => ((fail_if_success fail_if_success clear mk18); (((with_reducible show wpAny _ _ (eval (PySem.Expr.Name (Str.ofString "owners") _) (envOfC _ _ _ _ _)) _ _ _); k_dflt (refine' nameX_C ?N ?c ?h dO ?_ ?a ?b; (case a => rfl); (case b => rfl); (case N => k_asm); (case c => rfl); (case h => repeat (first | exact ho | refine List.Mem.tail _ ?_)); k_whole))))
  k_with "m:own" => ((fail_if_success fail_if_success clear mk18); (((with_reducible show wpAny _ _ (eval (PySem.Expr.Name (Str.ofString "owners") _) (compEnvC _ _ _ _)) _ _ _); k_dflt (refine kcf_cell (by k_asm) (by rfl) (by repeat (first | exact ho | refine List.Mem.tail _ ?_)) dO ?_))))
  k_with "m:own" => ((fail_if_success fail_if_success clear mk18); (((with_reducible show wpAny _ _ (eval (PySem.Expr.Name (Str.ofString "greatest") _) (compEnvC _ _ _ _)) _ _ _); k_dflt (refine kcf_cell (by k_asm) (by rfl) (by repeat (first | exact hg | refine List.Mem.tail _ ?_)) dG ?_))))
  k_with "m:own" => ((fail_if_success fail_if_success clear mk18); (((with_reducible show wpAny _ _ (eval (PySem.Expr.Name (Str.ofString "j") _) (compEnvC _ _ _ _)) _ _ _); k_dflt (refine kcf_cell (by k_asm) (by rfl) (by repeat (first | exact hj | refine List.Mem.tail _ ?_)) dJ ?_))))
  k_with "m:own" => ((fail_if_success fail_if_success clear mk18); (((with_reducible show wpAny _ _ (subscriptTail _ _ (Value.ref _) (Value.int _ _)) _ _ _); k_dflt (refine' item_ledN (ι := inferInstance) (val := strO.val) (xs := os) (n := n2) ?k1 ?k2 hjl ?k5 ?_ ?k7; (case k1 => k_asm); (case k2 => repeat (first | exact hO | refine List.Mem.tail _ ?_)); (case k5 => omega); (case k7 => with_unfolding_all rfl); k_whole); rw [eoj])))
  k_extra "m:steps"
  k_dflt (refine cg_assign F (by with_unfolding_all rfl) (by with_unfolding_all rfl) (by decide) (by rfl) (by decide) (by rfl) (by rfl) ?_)
  k_extra "m:steps"
  k_dflt (refine' cg_list (vs := os.map strO.val) (k := n2) ?k1 ?k2 ?k3 ?k4 ?k5 ?k6 ?k7 (fun i ys nw => ys = ((os.take i).filter (fun x => if g then sless (os.getD j default).1 x.1 else sless x.1 (os.getD j default).1)).map strO.val ∧ nw = news) ?kJ ?turn3 ?fin3; (case k1 => exact rfl); (case k2 => k_asm); (case k3 => k_asm); (case k4 => exact hO); (case k5 => simp; unfold sizeLine; omega); (case k6 => exact rfl); (case k7 => exact rfl); (case kJ => exact ⟨rfl, rfl⟩))
  case turn3 =>
    refine two_turn ?_
    intro i hi I7 oI7 C7 oC7 D7 m7 h5 tk5 E5 hx7 hC7 F5 N5 off5
    rw [List.length_map] at hi
    rw [getD_strs hi] at hx7
    refine wpAny_tests_one ?_
    k_extra "m:steps"
    · (rename _ < _ => hlt)
      exact cg_end _ F5 N5 (fun p hp => hp) off5 (fun p hp => by rw [List.mem_singleton.mp hp]; exact hO) ⟨filt_hit hi (by rw [if_pos (by assumption)]; exact decide_eq_true hlt), rfl⟩
    · (rename ¬ _ < _ => hlt)
      exact cg_end _ F5 N5 (fun p hp => hp) off5 (fun p hp => by rw [List.mem_singleton.mp hp]; exact hO) ⟨filt_miss hi (by rw [if_pos (by assumption)]; exact decide_eq_false hlt), rfl⟩
    · (rename g = false => hgf)
      (rename _ < _ => hlt)
      exact cg_end _ F5 N5 (fun p hp => hp) off5 (fun p hp => by rw [List.mem_singleton.mp hp]; exact hO) ⟨filt_hit hi (by rw [if_neg (by rw [hgf]; decide)]; exact decide_eq_true hlt), rfl⟩
    · (rename g = false => hgf)
      (rename ¬ _ < _ => hlt)
      exact cg_end _ F5 N5 (fun p hp => hp) off5 (fun p hp => by rw [List.mem_singleton.mp hp]; exact hO) ⟨filt_miss hi (by rw [if_neg (by rw [hgf]; decide)]; exact decide_eq_false hlt), rfl⟩
  case fin3 =>
    refine two_fin ?_
    intro D7 g7 offD7 ltD7 h5 tk5 F5 N5
    rw [List.length_map, List.take_length] at N5
    exact next _ _ _ D7 F5 N5 (allLt_of ltD7) (if_pos rfl) (fun z hz => if_neg hz)
end

end

-- text: FewB
section
open PyProof.Rows.LCg (NsObj lst)
section
variable {w : World} {mean : ExcName → Option Value} {mg mb : Str → Option Value} {h₀ : Heap} {L : Addr} {m : Str → Option Value} {s : Shared} {Q : Flow → Shared → Prop} {E : Value → Shared → Prop} {dp un : Nat} {gd : Option (List Code)} {cn : Str} {cs : Scope} {a L0 : Addr} {ccd : Value} {cl : List (Str × Addr)} {outer : List Env}
theorem len_ite {c : Prop} [Decidable c] {x : Str × Tok} : (if c then [x] else []).length = if c then 1 else 0 := by split <;> rfl
theorem few2 (hdp : dp + 3 < recursionLimit) (hu : un + 30 < cLine) (F : Fr h₀ L s.heap m) (T : Top q0 (looseW q0 loose0) mean mg mb h₀) {news : Led} (N : News h₀ L s.heap news) {O : Addr} {os : List (Str × Tok)} {oo oj : Obj} {n2 j : Nat} {tj : Tok} (ho : (L + 1, oo) ∈ news) (hj : (L + 1 + 1 + 1, oj) ∈ news) (dO : oo.data = .cell (some (.ref O))) (dJ : oj.data = .cell (some (.int (j : Nat) tj)))
    (hO : (O, listOf (os.map strO.val).toArray n2) ∈ news) (hjl : j < os.length) (hl : os.length < 100)
    (next : ∀ (h' : Heap) (tk' : Nat) (m' : Str → Option Value) (D' A' : Addr), Fr h₀ L h' m' → News h₀ L h' ((A', lst (((os.take j).filter fun x => decide (x.1 = (os.getD j default).1)).map strO.val)) :: (D', listOf ((os.take j).map strO.val).toArray 0) :: news) → AllLt D' news → AllLt A' news → m' (Str.ofString "alike") = some (.ref A') → (∀ z, z ≠ Str.ofString "alike" → m' z = m z) → fewWp w (ktrTop dp un gd cn cs L0 a ccd cl outer) L 2 Q E { s with heap := h', toks := tk' }) :
    (hd.heap_1 w.params).In h₀ → fewWp w (ktrTop dp un gd cn cs L0 a ccd cl outer) L 1 Q E s := by
  have mk19 : True := .intro
  unfold fewWp at next ⊢
  k_fill
  intro X
  have eoj : strO.val os[j]! = .str (os.getD j default).1 (os.getD j default).2 := by simp [hjl, strO]
  k_with "m:own" => ((fail_if_success fail_if_success clear mk19); (((with_reducible show wpAny _ _ (eval (PySem.Expr.Name (Str.ofString "owners") _) (envOfC _ _ _ _ _)) _ _ _); k_dflt (refine' nameX_C ?N ?c ?h dO ?_ ?a ?b; (case a => rfl); (case b => rfl); (case N => k_asm); (case c => rfl); (case h => repeat (first | exact ho | refine List.Mem.tail _ ?_)); k_whole))))
  k_with "m:own" => ((fail_if_success fail_if_success clear mk19); (((with_reducible show wpAny _ _ (eval (PySem.Expr.Name (Str.ofString "j") _) (envOfC _ _ _ _ _)) _ _ _); k_dflt (refine' nameX_C ?N ?c ?h dJ ?_ ?a ?b; (case a => rfl); (case b => rfl); (case N => k_asm); (case c => rfl); (case h => repeat (first | exact hj | refine List.Mem.tail _ ?_)); k_whole))))
  k_with "m:own" => ((fail_if_success fail_if_success clear mk19); (((with_reducible show wpAny _ _ (eval (PySem.Expr.Name (Str.ofString "owners") _) (compEnvC _ _ _ _)) _ _ _); k_dflt (refine kcf_cell (by k_asm) (by rfl) (by repeat (first | exact ho | refine List.Mem.tail _ ?_)) dO ?_))))
  k_with "m:own" => ((fail_if_success fail_if_success clear mk19); (((with_reducible show wpAny _ _ (eval (PySem.Expr.Name (Str.ofString "j") _) (compEnvC _ _ _ _)) _ _ _); k_dflt (refine kcf_cell (by k_asm) (by rfl) (by repeat (first | exact hj | refine List.Mem.tail _ ?_)) dJ ?_))))
  k_with "m:own" => ((fail_if_success fail_if_success clear mk19); (((with_reducible show wpAny _ _ (subscriptTail _ (PySem.Expr.Slice none (some _) none _) (Value.ref _) (Value.ref _)) _ _ _); k_dflt (refine' slice_led ?k1 ?k2 ?k3 (IsPart.none) (IsPart.int (Nat.cast _) _) (pick_upto _ _) ?_ ?s ?t ?z; (case k1 => k_asm); (case k2 => k_asm); (case k3 => exact hO); (case s => with_unfolding_all rfl); (case t => intro _; with_unfolding_all rfl); (case z => unfold sizeLine; omega); k_whole); intro Dl' h' F' N' l1'; (try k_sweep))))
  k_with "m:own" => ((fail_if_success fail_if_success clear mk19); (((with_reducible show wpAny _ _ (subscriptTail _ _ (Value.ref _) (Value.int _ _)) _ _ _); k_dflt (refine' item_ledN (ι := inferInstance) (val := strO.val) (xs := os) (n := n2) ?k1 ?k2 hjl ?k5 ?_ ?k7; (case k1 => k_asm); (case k2 => repeat (first | exact hO | refine List.Mem.tail _ ?_)); (case k5 => omega); (case k7 => with_unfolding_all rfl); k_whole); rw [eoj])))
  k_extra "m:steps"
  k_dflt (refine cg_assign F (by with_unfolding_all rfl) (by with_unfolding_all rfl) (by decide) (by rfl) (by decide) (by rfl) (by rfl) ?_)
  k_extra "m:steps"
  (rename News _ _ _ _ => Nn)
  k_dflt (refine' cg_list (vs := (os.take j).map strO.val) (k := 0) ?k1 ?k2 ?k3 ?k4 ?k5 ?k6 ?k7 (fun i ys nw => ys = (((os.take j).take i).filter (fun x => decide (x.1 = (os.getD j default).1))).map strO.val ∧ nw = (Dl', listOf ((os.take j).map strO.val).toArray 0) :: news) ?kJ ?turn4 ?fin4; (case k1 => exact rfl); (case k2 => k_asm); (case k3 => k_asm); (case k4 => k_mem); (case k5 => simp; unfold sizeLine; omega); (case k6 => exact rfl); (case k7 => exact rfl); (case kJ => exact ⟨rfl, rfl⟩))
  case turn4 =>
    refine two_turn ?_
    intro i hi I7 oI7 C7 oC7 D8 m7 h5 tk5 E5 hx7 hC7 F5 N5 off5
    rw [List.length_map] at hi
    rw [getD_strs hi] at hx7
    clear Nn
    refine wpAny_tests_one ?_
    k_extra "m:steps"
    · (rename (_ == _) = true => hbq)
      exact cg_end _ F5 N5 (fun p hp => hp) off5 (fun p hp => by rw [List.mem_singleton.mp hp]; k_mem) ⟨filt_hit hi (decide_eq_true (eq_of_beq hbq)), rfl⟩
    · (rename (_ == _) = false => hbq)
      exact cg_end _ F5 N5 (fun p hp => hp) off5 (fun p hp => by rw [List.mem_singleton.mp hp]; k_mem) ⟨filt_miss hi (decide_eq_false fun e => by rw [e, beq_self_eq_true] at hbq; cases hbq), rfl⟩
  case fin4 =>
    refine two_fin ?_
    intro D7 g7 offD7 ltD7 h5 tk5 F5 N5
    rw [List.length_map, List.take_length] at N5
    exact next _ _ _ Dl' D7 F5 N5 (allLt_of l1') (allLt_of fun p hp => ltD7 p (.tail _ hp)) (if_pos rfl) (fun z hz => if_neg hz)
theorem few3 (hdp : dp + 3 < recursionLimit) (hu : un + 30 < cLine) (F : Fr h₀ L s.heap m) (T : Top q0 (looseW q0 loose0) mean mg mb h₀) {news : Led} {D Ab Al : Addr} {zs bs as : List (Str × Tok)} {nz k : Nat} {x : Str × Tok} {tk : Tok}
    (N : News h₀ L s.heap ((D, listOf (zs.map strO.val).toArray nz) :: (Ab, lst (bs.map strO.val)) :: (Al, lst (as.map strO.val)) :: news)) (off : ∀ p ∈ (Ab, lst (bs.map strO.val)) :: (Al, lst (as.map strO.val)) :: news, p.1 ≠ D) (hbl : bs.length < 1000) (hal : as.length < 1000) (hzl : zs.length ≤ 1200)
    (mB : m (Str.ofString "better") = some (.ref Ab)) (mA : m (Str.ofString "alike") = some (.ref Al)) (mK : m (Str.ofString "k") = some (.int (k : Nat) tk)) (mF : m (Str.ofString "few") = some (.ref D)) (mP : m (Str.ofString "path") = some (.str x.1 x.2))
    (next : ∀ (h' : Heap) (tk' : Nat) (nz' : Nat), Fr h₀ L h' m → News h₀ L h' ((D, listOf ((zs ++ if bs.length + as.length = k then [x] else []).map strO.val).toArray nz') :: (Ab, lst (bs.map strO.val)) :: (Al, lst (as.map strO.val)) :: news) → nz' = nz + (if bs.length + as.length = k then 1 else 0) → Q .next { s with heap := h', toks := tk' }) :
    (hd.heap_1 w.params).In h₀ → fewWp w (ktrTop dp un gd cn cs L0 a ccd cl outer) L 2 Q E s := by
  have mk20 : True := .intro
  unfold fewWp
  k_fill
  intro X
  k_with "m:own" => ((fail_if_success fail_if_success clear mk20); (((with_reducible show wpAny _ _ (eval (PySem.Expr.Name _ _) (envOfC _ _ _ _ _)) _ _ _); k_dflt (refine' nameX_L ?F ?v ?_ ?a ?b; (case F => k_asm); (case v => with_reducible assumption); (case a => rfl); (case b => rfl); k_whole))))
  k_with "m:stop" => ((fail_if_success fail_if_success clear mk20); ((with_reducible show wpAny _ _ (call (Value.builtin "list.append") _) _ _ _)))
  k_extra "m:steps"
  · (rename _ + _ = _ => hsum)
    k_dflt (refine append_strs F N (Upd.head off) (by unfold sizeLine; omega) ?_)
    intro h4 F4 N4
    k_extra "m:steps"
    have e : bs.length + as.length = k := by omega
    exact next _ _ _ F4 (by rw [if_pos e]; exact N4) (by rw [if_pos e])
  · (rename ¬ _ + _ = _ => hsum)
    have e : ¬ bs.length + as.length = k := by omega
    exact next _ _ _ F (by rw [if_neg e, List.append_nil]; exact N) (by rw [if_neg e]; rfl)
end

end

-- text: Few
section
open PyProof.Rows.LCg (NsObj lst)
theorem few_con {w : World} {mean : ExcName → Option Value} {mg mb : Str → Option Value} {rest : Led} {P O : Addr} {ps os : List (Str × Tok)} {n1 n2 wish : Nat} {t : Tok} {g : Bool} (hlen : ps.length = os.length) (hl : ps.length < 100) (hw : wish < 10) :
    Con w mean mg mb 210 3 30 ((P, listOf (ps.map strO.val).toArray n1) :: (O, listOf (os.map strO.val).toArray n2) :: rest) [.ref P, .ref O, .int (wish : Nat) t, .bool g] (fun r news' => ∃ D zs c, r = .ref D ∧ news' = (D, listOf (zs.map strO.val).toArray c) :: (P, listOf (ps.map strO.val).toArray n1) :: (O, listOf (os.map strO.val).toArray n2) :: rest ∧ AllLt D ((P, listOf (ps.map strO.val).toArray n1) :: (O, listOf (os.map strO.val).toArray n2) :: rest) ∧ zs = fewUpTo g ps (os.map (·.1)) wish) := by
  have mk21 : True := .intro
  unfold Con
  k_fill
  intro dp un gd cn cs a ccd cl outer A₀ base h₀ L m s Q E B F X N T hk hd hu hret
  refine wpAny_call ?_
  k_dflt (k_extra "m:enterC")
  rename_i oj og oo dj dg dow
  have hoo : oo.data = .cell (some (.ref O)) := dow
  have hog : og.data = .cell (some (.bool g)) := dg
  have hoj : ∃ v0, oj.data = .cell v0 := ⟨_, dj⟩
  clear dj dg dow
  k_extra "m:steps"
  (rename Fr _ _ _ _ => Fn)
  (rename News _ _ _ _ => Nn)
  k_dflt (refine For_turns Fn ?_)
  k_with "m:stop" => ((fail_if_success fail_if_success clear mk21); ((with_reducible show wpAny _ _ (pyIter (Value.ref _)) _ _ _)))
  k_with "m:stop" => ((fail_if_success fail_if_success clear mk21); ((with_reducible show wpAny _ _ (call (Value.type "enumerate") _) _ _ _)))
  k_extra "m:steps"
  rename_i D hx1 lD hx2 hx3 hx4 hx5 tkx tx1 tx2 tx3 hr9 Fz Nz hkz
  k_dflt (refine' for_range (n := wish) ?k1 ?k2 ?k3 hr9 ?k4 ?_; (case k1 => exact rfl); (case k2 => k_asm); (case k3 => k_asm); (case k4 => omega))
  intro I g9 hI
  k_dflt (refine items_st (σ := List (Str × Tok) × Obj) (fun c => (D, listOf (c.1.map strO.val).toArray c.1.length) :: (L' + 1 + 1 + 1, c.2) :: (L' + 1 + 1, og) :: (L' + 1, oo) :: (P, listOf (ps.map strO.val).toArray n1) :: (O, listOf (os.map strO.val).toArray n2) :: rest) (fun _ => []) [Str.ofString "k", Str.ofString "path", Str.ofString "better", Str.ofString "alike"] (fun items c => ∃ k, k ≤ wish ∧ items = rangeItems (k : Int) 1 (wish - k) ∧ (∃ v0, c.2.data = .cell v0) ∧ c.1 = fewUpTo g ps (os.map (·.1)) k) ?turn ?done (rangeItems 0 1 wish) ([], oj) _ ⟨0, Nat.zero_le _, by simp, hoj, rfl⟩ (List.forall_mem_nil _) (fun _ _ _ => rfl))
  case turn =>
    intro a9 r
    refine elim2 ?_
    intro zs cj u v h tk hP9 hv F9 o1 ho1 N9
    refine gen_P fun R9 hR9 => ?_
    obtain ⟨k, hk1, e1, ⟨v0, e2⟩, e3⟩ := hP9
    refine of_P hR9 (gen_body fun R8 hR8 => ?_)
    clear hR9 R9
    k_with "m:own" => ((fail_if_success fail_if_success clear mk21); ((refine of_Q hR8 ?_; (try dsimp only))))
    cases hd9 : wish - k with
    | zero => rw [hd9] at e1; cases e1
    | succ d9 =>
      rw [hd9, rangeItems_succ] at e1
      cases e1
      obtain ⟨t9, rfl⟩ := hv
      have N9' : News _ _ _ ((I, o1) :: (D, listOf (zs.map strO.val).toArray zs.length) :: (L' + 1 + 1 + 1, cj) :: (L' + 1 + 1, og) :: (L' + 1, oo) :: (P, listOf (ps.map strO.val).toArray n1) :: (O, listOf (os.map strO.val).toArray n2) :: rest) := N9
      clear N9
      dsimp only [kstB] at *
      k_extra "m:steps"
      (rename Fr _ _ _ _ => Fn)
      k_dflt (refine For_turns Fn ?_)
      k_extra "m:steps"
      (rename Fr _ _ _ _ => Fn)
      (rename News _ _ _ _ => Nn)
      k_dflt (refine ktu_enum (vs := ps.map strO.val) (n := n1) rfl Fn Nn (by k_mem) rfl rfl rfl ?_)
      intro I2 hI2
      clear Fn Nn
      k_dflt (refine items_st (σ := List (Str × Tok) × Obj) (fun c => (I, o1) :: (D, listOf (c.1.map strO.val).toArray c.1.length) :: (L' + 1 + 1 + 1, c.2) :: (L' + 1 + 1, og) :: (L' + 1, oo) :: (P, listOf (ps.map strO.val).toArray n1) :: (O, listOf (os.map strO.val).toArray n2) :: rest) (fun _ => []) [Str.ofString "path", Str.ofString "better", Str.ofString "alike"] (fun items c => ∃ j, j ≤ ps.length ∧ items = enumItems j ((ps.map strO.val).drop j) ∧ (∃ v0, c.2.data = .cell v0) ∧ c.1 = fewUpTo g ps (os.map (·.1)) k ++ fewTo g ps (os.map (·.1)) k j) ?turn2 ?done2 (enumItems 0 (ps.map strO.val)) (zs, cj) _ ⟨0, Nat.zero_le _, by rw [List.drop_zero], ⟨v0, e2⟩, by dsimp only; rw [e3]; exact (List.append_nil _).symm⟩ (List.forall_mem_nil _) (fun _ _ _ => rfl))
      case turn2 =>
        intro a8 r8
        refine elim2 ?_
        intro zs8 cj8 u8 v8 h8 tk8 hP9 hv8 F8 q1 hq1 q2 hq2 N8
        refine gen_P fun R9 hR9 => ?_
        obtain ⟨j, hj1, e81, ⟨v80, e82⟩, e83⟩ := hP9
        refine of_P hR9 (gen_body fun R8 hR8 => ?_)
        clear hR9 R9
        k_with "m:own" => ((fail_if_success fail_if_success clear mk21); ((refine of_Q hR8 ?_; (try dsimp only))))
        have hj : j < ps.length := by
          rcases Nat.lt_or_ge j ps.length with h | h
          · exact h
          · rw [List.drop_of_length_le (by simpa using h)] at e81; cases e81
        rw [List.drop_eq_getElem_cons (by simpa using hj)] at e81
        cases e81
        obtain ⟨T8, t8, rfl, hT8⟩ := hv8
        have hTv : (ps.map strO.val)[j]'(by simpa using hj) = .str (ps.getD j default).1 (ps.getD j default).2 := by simp [hj, strO]
        rw [hTv] at hT8
        have eoj : strO.val os[j]! = .str (os.getD j default).1 (os.getD j default).2 := by simp [show j < os.length by omega, strO]
        have c1 : @LT.lt Nat _ (L' + 1 + 1 + 1) I2 := hI2 _ (.tail _ (.tail _ (.head _)))
        have c2 : @LT.lt Nat _ (L' + 1 + 1 + 1) I := hI _ (.tail _ (.head _))
        have c3 : @LT.lt Nat _ (L' + 1 + 1 + 1) D := lD.1
        have c4 : ∀ p ∈ (L' + 1 + 1, og) :: (L' + 1, oo) :: (P, listOf (ps.map strO.val).toArray n1) :: (O, listOf (os.map strO.val).toArray n2) :: rest, p.1 ≠ L' + 1 + 1 + 1 := List.forall_mem_cons.mpr ⟨Nat.ne_of_lt (Nat.lt_succ_self _), List.forall_mem_cons.mpr ⟨Nat.ne_of_lt (Nat.lt_succ_of_lt (Nat.lt_succ_self _)), fun p hp => Nat.ne_of_lt (Nat.lt_succ_of_lt (Nat.lt_succ_of_lt (Nat.lt_succ_of_lt (l1' p hp))))⟩⟩
        k_dflt (refine assign_Tuple_tuple rfl hT8 rfl rfl fun h7 he7 => ?_)
        have he' : ∀ b o, h8.get? b = some o → h7.get? b = some o := fun b o e => he7 b o (Nat.ne_of_lt (Heap.lt_size e)) e
        have F7 := F8.keeps he'
        have N7 : News _ _ h7 ((I2 + 1, q1) :: (I2, q2) :: (I, o1) :: (D, listOf (zs8.map strO.val).toArray zs8.length) :: (L' + 1 + 1 + 1, cj8) :: (L' + 1 + 1, og) :: (L' + 1, oo) :: (P, listOf (ps.map strO.val).toArray n1) :: (O, listOf (os.map strO.val).toArray n2) :: rest) := N8.grown he'
        clear N8 F8 he7 hT8
        refine assignInOrder_cons (wpAny_assign_Name ?_)
        k_dflt (refine storeX_C F7 N7 (c := L' + 1 + 1 + 1) rfl (UpdF.tail (Nat.ne_of_gt (Nat.lt_succ_of_lt c1)) (UpdF.tail (Nat.ne_of_gt c1) (UpdF.tail (Nat.ne_of_gt c2) (UpdF.tail (Nat.ne_of_gt c3) (UpdF.head c4))))) e82 ?_ rfl rfl)
        intro h6 cj7 F6 N6 e72
        clear F7 N7 he'
        refine assignInOrder_cons (wpAny_assign_Name ?_)
        dsimp only [kstB] at *
        k_with "m:stop" => ((fail_if_success fail_if_success clear mk21); ((with_reducible show wpAny _ _ (execs (Stmt.Assign _ _ _ :: _) _) _ _ _)))
        k_extra "m:steps"
        (rename Fr _ _ _ _ => Fn)
        (rename News _ _ _ _ => Nn)
        have hDI : @LT.lt Nat _ D I := hI _ (.head _)
        have hDI2 : @LT.lt Nat _ D I2 := hI2 _ (.tail _ (.head _))
        refine few1 hd hu Fn T' Nn (.tail _ (.tail _ (.tail _ (.tail _ (.tail _ (.tail _ (.head _))))))) (.tail _ (.tail _ (.tail _ (.tail _ (.tail _ (.head _)))))) (.tail _ (.tail _ (.tail _ (.tail _ (.head _))))) hoo hog e72 (.tail _ (.tail _ (.tail _ (.tail _ (.tail _ (.tail _ (.tail _ (.tail _ (.head _))))))))) (by omega) (by omega) (fun h1 tk1 m1 A1 F1 N1 l1 mB1 hm1 => ?_) X'
        refine few2 hd hu F1 T' N1 (.tail _ (.tail _ (.tail _ (.tail _ (.tail _ (.tail _ (.tail _ (.head _)))))))) (.tail _ (.tail _ (.tail _ (.tail _ (.tail _ (.head _)))))) hoo e72 (.tail _ (.tail _ (.tail _ (.tail _ (.tail _ (.tail _ (.tail _ (.tail _ (.tail _ (.head _)))))))))) (by omega) (by omega) (fun h2 tk2 m2 D2 A2 F2 N2 lD2 lA2 mA2 hm2 => ?_) X'
        have hz8 : zs8.length ≤ 1200 := by
          have z1 := fewUpTo_le g ps (os.map (·.1)) k
          have z2 := fewTo_le g ps (os.map (·.1)) k j
          have z3 : k * ps.length ≤ 10 * 100 := Nat.mul_le_mul (by omega) (by omega)
          rw [e83, List.length_append]; omega
        have hDr : ∀ p ∈ (L' + 1 + 1 + 1, cj7) :: (L' + 1 + 1, og) :: (L' + 1, oo) :: (P, listOf (ps.map strO.val).toArray n1) :: (O, listOf (os.map strO.val).toArray n2) :: rest, p.1 ≠ D := by
          obtain ⟨l1, l2, l3, l4, l5, l6⟩ := lD
          exact List.forall_mem_cons.mpr ⟨Nat.ne_of_lt l1, List.forall_mem_cons.mpr ⟨Nat.ne_of_lt l2, List.forall_mem_cons.mpr ⟨Nat.ne_of_lt l3, List.forall_mem_cons.mpr ⟨Nat.ne_of_lt l4, List.forall_mem_cons.mpr ⟨Nat.ne_of_lt l5, allLt_out l6⟩⟩⟩⟩⟩
        have hbl : (os.filter (fun x => if g then sless (os.getD j default).1 x.1 else sless x.1 (os.getD j default).1)).length < 1000 := Nat.lt_of_le_of_lt (List.length_filter_le _ _) (by omega)
        have hal : ((os.take j).filter (fun x => decide (x.1 = (os.getD j default).1))).length < 1000 := Nat.lt_of_le_of_lt (List.length_filter_le _ _) (by rw [List.length_take]; omega)
        refine few3 (k := k) (x := ps.getD j default) hd hu F2 T' (news := (D2, listOf ((os.take j).map strO.val).toArray 0) :: (I2 + 1, q1) :: (I2, q2) :: (I, o1) :: (L' + 1 + 1 + 1, cj7) :: (L' + 1 + 1, og) :: (L' + 1, oo) :: (P, listOf (ps.map strO.val).toArray n1) :: (O, listOf (os.map strO.val).toArray n2) :: rest)
          (news_perm N2 (List.forall_mem_cons.mpr ⟨.tail _ (.tail _ (.tail _ (.tail _ (.tail _ (.tail _ (.head _)))))), List.forall_mem_cons.mpr ⟨.tail _ (.tail _ (.head _)), List.forall_mem_cons.mpr ⟨.head _, List.forall_mem_cons.mpr ⟨.tail _ (.head _), List.forall_mem_cons.mpr ⟨.tail _ (.tail _ (.tail _ (.head _))), List.forall_mem_cons.mpr ⟨.tail _ (.tail _ (.tail _ (.tail _ (.head _)))), List.forall_mem_cons.mpr ⟨.tail _ (.tail _ (.tail _ (.tail _ (.tail _ (.head _))))), fun p hp => .tail _ (.tail _ (.tail _ (.tail _ (.tail _ (.tail _ (.tail _ (hp)))))))⟩⟩⟩⟩⟩⟩⟩))
          (List.forall_mem_cons.mpr ⟨Nat.ne_of_gt l1.2.2.2.1, List.forall_mem_cons.mpr ⟨Nat.ne_of_gt lA2.2.2.2.2.1, List.forall_mem_cons.mpr ⟨Nat.ne_of_gt lD2.2.2.2.2.1, List.forall_mem_cons.mpr ⟨Nat.ne_of_gt (Nat.lt_succ_of_lt hDI2), List.forall_mem_cons.mpr ⟨Nat.ne_of_gt hDI2, List.forall_mem_cons.mpr ⟨Nat.ne_of_gt hDI, hDr⟩⟩⟩⟩⟩⟩) hbl hal hz8
          ((hm2 _ (by decide)).trans mB1) mA2 ((hm2 _ (by decide)).trans ((hm1 _ (by decide)).trans rfl)) ((hm2 _ (by decide)).trans ((hm1 _ (by decide)).trans rfl)) ((hm2 _ (by decide)).trans ((hm1 _ (by decide)).trans rfl)) (fun h3 tk3 nz' F3 N3 enz => ?_) X'
        have enz2 : nz' = (zs8 ++ if (os.filter (fun x => if g then sless (os.getD j default).1 x.1 else sless x.1 (os.getD j default).1)).length + ((os.take j).filter (fun x => decide (x.1 = (os.getD j default).1))).length = k then [ps.getD j default] else []).length := by
          rw [enz, List.length_append, len_ite]
        rw [enz2] at N3
        refine of_Q hR8 (it_next (it_end (zs8 ++ if (os.filter (fun x => if g then sless (os.getD j default).1 x.1 else sless x.1 (os.getD j default).1)).length + ((os.take j).filter (fun x => decide (x.1 = (os.getD j default).1))).length = k then [ps.getD j default] else [], cj7) F3 N3 (List.forall_mem_cons.mpr ⟨.tail _ (.tail _ (.tail _ (.tail _ (.head _)))), List.forall_mem_cons.mpr ⟨.tail _ (.tail _ (.tail _ (.tail _ (.tail _ (.head _))))), List.forall_mem_cons.mpr ⟨.tail _ (.tail _ (.tail _ (.tail _ (.tail _ (.tail _ (.head _)))))), List.forall_mem_cons.mpr ⟨.head _, fun p hp => .tail _ (.tail _ (.tail _ (.tail _ (.tail _ (.tail _ (.tail _ (hp)))))))⟩⟩⟩⟩) (off_two (lt_at2 hI2)) (fun p hp => by rw [List.mem_singleton.mp hp]; k_mem) (List.forall_mem_nil _) (fun z _ hz => ?_) ⟨j + 1, hj, rfl, ⟨_, e72⟩, ?_⟩))
        · have hz' : z ≠ Str.ofString "path" ∧ z ≠ Str.ofString "better" ∧ z ≠ Str.ofString "alike" := by simpa using hz
          refine (hm2 z hz'.2.2).trans ((hm1 z hz'.2.1).trans ?_)
          show (if z = _ then _ else if _ then u8 z else _) = _
          rw [if_neg hz'.1, hz]; rfl
        · dsimp only
          rw [fewTo_succ, ahead_eq rfl rfl, e83, List.append_assoc]
      case done2 =>
        refine elim2 ?_
        intro zs8 cj8 u8 h8 tk8 hP9 F8 N8
        refine gen_P fun R9 hR9 => ?_
        obtain ⟨j, hj1, e81, e82, e83⟩ := hP9
        refine of_P hR9 ?_
        clear hR9 R9
        have hj : j = ps.length := by
          rcases Nat.lt_or_ge j ps.length with h | h
          · rw [List.drop_eq_getElem_cons (by simpa using h)] at e81; cases e81
          · omega
        subst hj
        dsimp only at *
        k_extra "m:steps"
        dsimp only [kstB] at F8
        exact it_end (zs8, cj8) F8 N8 (fun p hp => hp) (off_one (lt_at2b hI)) (List.forall_mem_nil _) (List.forall_mem_nil _) (by k_extra "m:same") ⟨k + 1, by omega, by rw [show wish - (k + 1) = d9 by omega]; rfl, e82, by dsimp only; rw [fewUpTo_succ, e83]⟩
  case done =>
    refine elim2 ?_
    intro zs cj u h tk hP9 F9 N9
    refine gen_P fun R9 hR9 => ?_
    obtain ⟨k, hk1, e1, e2, e3⟩ := hP9
    refine of_P hR9 ?_
    clear hR9 R9
    have hk : k = wish := by
      cases hd9 : wish - k with
      | zero => omega
      | succ d9 => rw [hd9, rangeItems_succ] at e1; cases e1
    subst hk
    dsimp only at *
    k_extra "m:steps"
    (rename Fr h₀ _ _ _ => kF)
    (rename News h₀ _ _ _ => kN)
    exact hret _ _ _ _ kF (fun p hp => kN p (by
      rcases List.mem_cons.mp hp with rfl | hp
      · exact .head _
      · exact .tail _ (.tail _ (.tail _ (.tail _ hp))))) ⟨D, zs, _, rfl, rfl, lD.2.2.2, e3⟩

end

-- text: Law0
noncomputable def lawF : Stmt := match PySem.Challenge.pw_nq0173_01.main.body[31]? with
  | some x => x
  | none => .Pass ⟨0, 0, 0, 0⟩
noncomputable def lawB : List Stmt := match lawF with
  | .FunctionDef _ _ body .. => body
  | _ => []
noncomputable def lawS : Scope := match lawF with
  | .FunctionDef _ _ _ _ _ _ scope .. => scope
  | _ => { kind := .function, names := [], isGenerator := false, isCoroutine := false }
noncomputable abbrev lawE (L fa : Addr) (cd : Value) : Env := envOfC (Str.ofString "law") lawS L fa cd
/-- the law's body from its statement at place k on -/
noncomputable abbrev lawWp (w : World) (L fa : Addr) (cd : Value) (k : Nat) (Q : Flow → Shared → Prop) (E : Value → Shared → Prop) (s : Shared) : Prop :=
  wpAny (model PySem.Challenge.rw_nq0173_01.row.prog w) (callerA.deeper (lawE L fa cd)) (execs (lawB.drop k) (lawE L fa cd)) Q E s

-- text: Law1
section
open PyProof.Rows.LCg (NsObj lst)
noncomputable abbrev intV (e : Int × Tok) : Value := .int e.1 e.2
theorem ints_of {es : List (Int × Tok)} : IntsAre (es.map intV) (es.map (·.1)) := by
  have h := intsAre_map (es.map intV) (fun v hv => by
    obtain ⟨e, _, rfl⟩ := List.mem_map.mp hv
    exact ⟨_, _, rfl⟩)
  rw [List.map_map] at h
  exact h
theorem getD_ints {es : List (Int × Tok)} {i : Nat} (hi : i < es.length) : (es.map intV).getD i .none = .int (es.getD i default).1 (es.getD i default).2 := by
  simp [hi]
theorem isList_kept {h h' : Heap} {a : Addr} {vs : Array Value} (hl : h.IsList a vs) (k : ∀ b o, h.get? b = some o → h'.get? b = some o) : h'.IsList a vs := by
  obtain ⟨o, h1, h2⟩ := hl
  exact ⟨o, k _ _ h1, h2⟩
theorem news_get {h₀ h : Heap} {L : Addr} {news : Led} {p : Addr × Obj} (N : News h₀ L h news) (hp : p ∈ news) : h.get? p.1 = some p.2 := (N p hp).1
theorem take_snoc {α β : Type} [Inhabited α] {xs : List α} {i : Nat} (f : α → β) (hi : i < xs.length) : (xs.take i).map f ++ [f (xs.getD i default)] = (xs.take (i + 1)).map f := by
  have e : xs[i] = xs.getD i default := by simp [hi]
  rw [List.take_succ_eq_append_getElem hi, List.map_append, e]
  rfl
section
variable {w : World} {mean : ExcName → Option Value} {mg mb : Str → Option Value} {h₀ base : Heap} {L fa : Addr} {cd : Value} {m : Str → Option Value} {s : Shared} {Q : Flow → Shared → Prop} {E : Value → Shared → Prop}
theorem slice_out {news : Led} {ax : Addr} {es : List (Int × Tok)} {prog : Program} {A : Around} {Q : Value → Shared → Prop} {t : Tok} {value slice : PySem.Expr} (hL : h₀.IsList ax (es.map intV).toArray) (hlen : es.length ≤ 63) (F : Fr h₀ L s.heap m) (N : News h₀ L s.heap news)
    (h : ∀ D' h', Fr h₀ L h' m → News h₀ L h' ((D', listOf ((es.take 6).map intV).toArray 0) :: news) → (∀ p ∈ news, p.1 < D') → Q (.ref D') { s with heap := h' })
    (hs : subscripted slice false (.ref ax) (.ref s.heap.objs.size) = operate [.ref s.heap.objs.size, .ref ax] (getItem (.ref ax) (.ref s.heap.objs.size))) (ht : ∀ r, letTemporaryGo value (.ref ax) r = pure ()) :
    wpAny (model prog w) A (subscriptTail value slice (.ref ax) (.ref s.heap.objs.size)) Q E { s with heap := s.heap.push { cls := .type "slice", data := .fields #[.none, .int 6 t, .none] } } :=
  kmk_slice_lit F N (isList_kept hL F.keep) IsPart.none (IsPart.int 6 _) (pick_upto es 6) h hs ht (by simp; unfold sizeLine; lia)
theorem add_ints {news : Led} {D₁ D₂ : Addr} {prog : Program} {A : Around} {Q : Value → Shared → Prop} {l₁ l₂ : List (Int × Tok)} {vs : List Value} {n₁ n₂ : Nat} (F : Fr h₀ L s.heap m) (N : News h₀ L s.heap news) (h1 : (D₁, listOf (l₁.map intV).toArray n₁) ∈ news) (h2 : (D₂, listOf vs.toArray n₂) ∈ news) {fs : List Int} (e : vs = l₂.map intV) (e2 : l₂.map (·.1) = fs) (hz : l₁.length + l₂.length ≤ sizeLine)
    (h : ∀ (xs : List (Int × Tok)) D h', xs.map (·.1) = l₁.map (·.1) ++ fs → xs.length = l₁.length + l₂.length → Fr h₀ L h' m → News h₀ L h' ((D, listOf (xs.map intV).toArray 0) :: news) → (∀ p ∈ news, p.1 < D) → Q (.ref D) { s with heap := h' }) : wpAny (model prog w) A (binaryOp .Add (.ref D₁) (.ref D₂)) Q E s := by
  subst e
  refine add_arrays F N (PySem.IsL.isList (n := n₁) (N _ h1).1) (PySem.IsL.isList (n := n₂) (N _ h2).1) (fun h' F' N' => h (l₁ ++ l₂) _ h' (by rw [List.map_append, e2]) List.length_append F' ?_ fun p hp => Heap.lt_size (N p hp).1) (by simpa using hz)
  rw [List.map_append]
  exact N'
noncomputable def fives : List Int := [11166, 571, 2209, 8334, 2839]
theorem law1 (B : Below callerA base [] h₀) (F : Fr h₀ L s.heap m) (T : Top q0 (looseW q0 loose0) mean mg mb h₀) {c1 c2 c3 : Obj} (N : News h₀ L s.heap [(L + 1, c1), (L + 1 + 1, c2), (L + 1 + 1 + 1, c3)]) {v1 : Option Value} (d1 : c1.data = .cell v1)
    {ax : Addr} {es : List (Int × Tok)} (hs : m (Str.ofString "script") = some (.ref ax)) (hL : h₀.IsList ax (es.map intV).toArray) (hlen : es.length ≤ 63) 
    (next : ∀ (h' : Heap) (tk' : Nat) (m' : Str → Option Value) (c1' : Obj) (tt : Tok) (D : Addr) (ps : List (Str × Tok)), Fr h₀ L h' m' → News h₀ L h' [(D, lst (ps.map strO.val)), (L + 1, c1'), (L + 1 + 1, c2), (L + 1 + 1 + 1, c3)] → c1'.data = .cell (some (.int (((es.take 6).map (·.1)).sum + 194) tt)) → m' (Str.ofString "paths") = some (.ref D) →
      ps.map (·.1) = ((es.take 6).map (·.1) ++ fives).map pathOf → AllLt D [(L + 1, c1'), (L + 1 + 1, c2), (L + 1 + 1 + 1, c3)] → lawWp w L fa cd 2 Q E { s with heap := h', toks := tk' }) : (hd.heap_1 w.params).In h₀ → lawWp w L fa cd 0 Q E s := by
  have mk22 : True := .intro
  unfold lawWp at next ⊢
  k_fill
  intro X
  k_with "m:own" => ((fail_if_success fail_if_success clear mk22); (((with_reducible show wpAny _ _ (eval (PySem.Expr.Name _ _) (envOfC _ _ _ _ _)) _ _ _); k_dflt (refine' nameX_L ?F ?v ?_ ?a ?b; (case F => k_asm); (case v => with_reducible assumption); (case a => rfl); (case b => rfl); k_whole))))
  k_with "m:own" => ((fail_if_success fail_if_success clear mk22); (((with_reducible show wpAny _ _ (subscriptTail _ (PySem.Expr.Slice none (some _) none _) (Value.ref _) (Value.ref _)) _ _ _); k_dflt (refine' slice_out hL hlen ?k1 ?k2 ?_ ?s ?t; (case k1 => k_asm); (case k2 => k_asm); (case s => with_unfolding_all rfl); (case t => intro _; with_unfolding_all rfl); k_whole); intro Dl' h' F' N' l1'; (try k_sweep))))
  k_with "m:own" => ((fail_if_success fail_if_success clear mk22); (((with_reducible show wpAny _ _ (call (Value.builtin "sum") [Value.ref _]) _ _ _); k_dflt (refine' sumK ?k0 ?k1 ?k2 ?k3 ints_of ?_; (case k0 => exact rfl); (case k1 => k_asm); (case k2 => k_asm); (case k3 => exact PySem.IsL.isList (news_get (by k_asm) (by k_mem))); k_whole); intro h' tk' t' F' N'; (try k_sweep))))
  k_with "m:stop" => ((fail_if_success fail_if_success clear mk22); ((with_reducible show wpAny _ _ (call (Value.ref _) _) _ _ _)))
  k_with "m:stop" => ((fail_if_success fail_if_success clear mk22); ((with_reducible show wpAny _ _ (binaryOp _ (Value.ref _) (Value.ref _)) _ _ _)))
  k_extra "m:steps"
  (rename Obj => o1)
  (rename o1.data = _ => e1)
  (rename Fr _ _ _ _ => Fn)
  (rename News _ _ _ _ => Nn)
  have N1 : News h₀ L _ [(L + 1, o1), (L + 1 + 1, c2), (L + 1 + 1 + 1, c3)] := fun p hp => Nn p (.tail _ hp)
  clear Nn
  k_dflt (refine cg_assign Fn (by with_unfolding_all rfl) (by with_unfolding_all rfl) (by decide) (by rfl) (by decide) (by rfl) (by rfl) ?_)
  k_extra "m:steps"
  (rename Fr _ _ _ _ => Fn)
  (rename News _ _ _ _ => Nn)
  k_dflt (refine add_ints (fs := fives) (l₁ := es.take 6) (l₂ := [(_, _), (_, _), (_, _), (_, _), (_, _)]) Fn Nn (by k_mem) (by k_mem) rfl rfl (by simp; unfold sizeLine; lia) ?_)
  intro xs D1 h4 hf hxl F4 N4 l4
  have hxl : xs.length < 20 := by rw [hxl]; simp; lia
  clear Fn Nn
  have N5 : News h₀ L h4 [(D1, listOf (xs.map intV).toArray 0), (L + 1, o1), (L + 1 + 1, c2), (L + 1 + 1 + 1, c3)] := fun p hp => N4 p (by
    rcases List.mem_cons.mp hp with rfl | hp
    · exact .head _
    · exact .tail _ (.tail _ (.tail _ hp)))
  clear N4
  k_extra "m:steps"
  k_dflt (refine' cg_list (vs := xs.map intV) (k := 0) ?k1 ?k2 ?k3 ?k4 ?k5 ?k6 ?k7 (fun i ys nw => (∃ ps : List (Str × Tok), ys = ps.map strO.val ∧ ps.map (·.1) = (xs.take i).map (fun x => pathOf x.1)) ∧ nw = [(D1, listOf (xs.map intV).toArray 0), (L + 1, o1), (L + 1 + 1, c2), (L + 1 + 1 + 1, c3)]) ?kJ ?turn ?fin; (case k1 => exact rfl); (case k2 => k_asm); (case k3 => k_asm); (case k4 => k_mem); (case k5 => simp; unfold sizeLine; lia); (case k6 => exact rfl); (case k7 => exact rfl); (case kJ => exact ⟨⟨[], rfl, rfl⟩, rfl⟩))
  case turn =>
    rintro i ys nw hi ⟨⟨ps, rfl, hps⟩, rfl⟩ I7 oI7 C7 oC7 D8 m7 h5 tk5 E5 hx7 hC7 F5 N6 off5
    rw [List.length_map] at hi
    rw [getD_ints hi] at hx7
    refine tests_go ?_
    k_extra "m:steps"
    k_dflt (refine' Con.useT ?k1 ?k2 ?k3 ?k4 ?k5 ?k6 path_con ?k7 ?k8 ?_)
    k_extra "m:use"
    intro t8 h' tk' F' N'
    exact cg_end _ F' N' (fun p hp => hp) off5 (fun p hp => by rw [List.mem_singleton.mp hp]; k_mem) ⟨⟨ps ++ [(_, t8)], by rw [List.map_append]; rfl, by rw [List.map_append, hps]; exact take_snoc (fun x : Int × Tok => pathOf x.1) hi⟩, rfl⟩
  case fin =>
    rintro D7 ys nw g7 ⟨⟨ps, rfl, hps⟩, rfl⟩ offD7 ltD7 h5 tk5 F5 N6
    rw [List.length_map, List.take_length] at hps
    refine next _ _ _ _ _ D7 ps F5 (fun p hp => N6 p (by
      rcases List.mem_cons.mp hp with rfl | hp
      · exact .head _
      · exact .tail _ (.tail _ hp))) e1 (if_pos rfl) ?_ (allLt_of fun p hp => ltD7 p (.tail _ hp))
    rw [hps, ← hf, List.map_map]
    rfl
end

end

-- text: Law2
section
open PyProof.Rows.LCg (NsObj lst)
section
variable {w : World} {mean : ExcName → Option Value} {mg mb : Str → Option Value} {h₀ base : Heap} {L fa : Addr} {cd : Value} {m : Str → Option Value} {s : Shared} {Q : Flow → Shared → Prop} {E : Value → Shared → Prop}
theorem law2 (B : Below callerA base [] h₀) (F : Fr h₀ L s.heap m) (T : Top q0 (looseW q0 loose0) mean mg mb h₀) {rest : Led} {D : Addr} {ps : List (Str × Tok)} (N : News h₀ L s.heap ((D, lst (ps.map strO.val)) :: rest)) (hD : m (Str.ofString "paths") = some (.ref D)) (hlen : ps.length < 100) (hpl : ∀ p ∈ ps, p.1.length < 1000)
    (next : ∀ (h' : Heap) (tk' : Nat) (m' : Str → Option Value) (O : Addr) (os : List (Str × Tok)), Fr h₀ L h' m' → News h₀ L h' ((O, lst (os.map strO.val)) :: (D, lst (ps.map strO.val)) :: rest) → AllLt O ((D, lst (ps.map strO.val)) :: rest) → m' (Str.ofString "paths") = some (.ref D) → m' (Str.ofString "owners") = some (.ref O) →
      os.map (·.1) = ps.map (fun p => lawMod p.1) → lawWp w L fa cd 3 Q E { s with heap := h', toks := tk' }) : (hd.heap_1 w.params).In h₀ → lawWp w L fa cd 2 Q E s := by
  have mk23 : True := .intro
  unfold lawWp at next ⊢
  k_fill
  intro X
  k_with "m:own" => ((fail_if_success fail_if_success clear mk23); (((with_reducible show wpAny _ _ (eval (PySem.Expr.Name _ _) (envOfC _ _ _ _ _)) _ _ _); k_dflt (refine' nameX_L ?F ?v ?_ ?a ?b; (case F => k_asm); (case v => with_reducible assumption); (case a => rfl); (case b => rfl); k_whole))))
  k_with "m:stop" => ((fail_if_success fail_if_success clear mk23); ((with_reducible show wpAny _ _ (call (Value.ref _) _) _ _ _)))
  k_extra "m:steps"
  k_dflt (refine cg_assign F (by with_unfolding_all rfl) (by with_unfolding_all rfl) (by decide) (by rfl) (by decide) (by rfl) (by rfl) ?_)
  k_extra "m:steps"
  k_dflt (refine' cg_list (vs := ps.map strO.val) ?k1 ?k2 ?k3 ?k4 ?k5 ?k6 ?k7 (fun i ys nw => (∃ os : List (Str × Tok), ys = os.map strO.val ∧ os.map (·.1) = (ps.take i).map (fun x => lawMod x.1)) ∧ nw = (D, lst (ps.map strO.val)) :: rest) ?kJ ?turn ?fin; (case k1 => exact rfl); (case k2 => k_asm); (case k3 => k_asm); (case k4 => k_mem); (case k5 => simp; unfold sizeLine; lia); (case k6 => exact rfl); (case k7 => exact rfl); (case kJ => exact ⟨⟨[], rfl, rfl⟩, rfl⟩))
  case turn =>
    rintro i ys nw hi ⟨⟨os, rfl, hos⟩, rfl⟩ I7 oI7 C7 oC7 D8 m7 h5 tk5 E5 hx7 hC7 F5 N6 off5
    rw [List.length_map] at hi
    rw [getD_strs hi] at hx7
    refine tests_go ?_
    k_extra "m:steps"
    k_dflt (refine' Con.useT ?k1 ?k2 ?k3 ?k4 ?k5 ?k6 (lawmod_con (hpl _ (getD_mem hi))) ?k7 ?k8 ?_)
    k_extra "m:use"
    intro t8 h' tk' F' N'
    exact cg_end _ F' N' (fun p hp => hp) off5 (fun p hp => by rw [List.mem_singleton.mp hp]; k_mem) ⟨⟨os ++ [(_, t8)], by rw [List.map_append]; rfl, by rw [List.map_append, hos]; exact take_snoc (fun x : Str × Tok => lawMod x.1) hi⟩, rfl⟩
  case fin =>
    rintro D7 ys nw g7 ⟨⟨os, rfl, hos⟩, rfl⟩ offD7 ltD7 h5 tk5 F5 N6
    rw [List.length_map, List.take_length] at hos
    exact next _ _ _ D7 os F5 N6 (allLt_of ltD7) ((if_neg (by decide)).trans hD) (if_pos rfl) hos
end

end

-- text: Law3
section
open PyProof.Rows.LCg (NsObj lst)
noncomputable def picked (total : Int) (off : Nat) (names : List Str) (n : Nat) : List Str := (List.range n).filterMap fun i => if (total.fdiv (2 ^ (i + off))).fmod 2 = 1 then some (names.getD i default) else none
noncomputable def mods4 : List Str := [Str.ofString "a", Str.ofString "b.a", Str.ofString ".b", Str.ofString "a.a.b"]
noncomputable def writ4 : List Str := [Str.ofString "/", Str.ofString "a", Str.ofString "/a/", Str.ofString "b/./a"]
noncomputable def plain4 : List Str := [Str.ofString "//", Str.ofString "a/", Str.ofString "/a/", Str.ofString "b/a/"]
theorem picked_hit {total : Int} {off : Nat} {nm : List (Str × Tok)} {i : Nat} {qs : List (Str × Tok)} (hq : qs.map (·.1) = picked total off (nm.map (·.1)) i) (h : (total.fdiv (2 ^ (i + off))).fmod 2 = 1) : (qs ++ [nm.getD i default]).map (·.1) = picked total off (nm.map (·.1)) (i + 1) := by
  unfold picked at *
  rw [List.range_succ, List.filterMap_append, List.map_append, hq]
  simp [h]
  rcases Nat.lt_or_ge i nm.length with h | h
  · simp [h]
  · simp [h]; rfl
theorem picked_miss {total : Int} {off : Nat} {nm : List Str} {i : Nat} {qs : List Str} (hq : qs = picked total off nm i) (h : ¬ (total.fdiv (2 ^ (i + off))).fmod 2 = 1) : qs = picked total off nm (i + 1) := by
  unfold picked at *
  rw [List.range_succ, List.filterMap_append, hq]
  simp [h]
theorem strs_names {prog : Program} {w : World} {A : Around} {E : Value → Shared → Prop} {s : Shared} {h₀ : Heap} {L D : Addr} {news : Led} {vs : List Value} {n : Nat} {t : Sem Value} {Q : Value → Shared → Prop} (N : News h₀ L s.heap ((D, listOf vs.toArray n) :: news)) (nm : List (Str × Tok)) {names : List Str} (e : vs = nm.map strO.val) (e2 : nm.map (·.1) = names)
    (h : ∀ nm : List (Str × Tok), nm.map (·.1) = names → nm.length = names.length → News h₀ L s.heap ((D, listOf (nm.map strO.val).toArray n) :: news) → wpAny (model prog w) A t Q E s) : wpAny (model prog w) A t Q E s := h nm e2 (by rw [← e2, List.length_map]) (e ▸ N)
theorem add4_nat {prog : Program} {w : World} {A : Around} {E : Value → Shared → Prop} {s : Shared} {a : Nat} {t u : Tok} {Q : Value → Shared → Prop} (h : ∀ tk, Q (.int ((a + 4 : Nat) : Int) tk) { s with toks := tk + 1 }) : wpAny (model prog w) A (binaryOp .Add (.int (a : Int) t) (.int 4 u)) Q E s := add_int (h _)
section
variable {w : World} {mean : ExcName → Option Value} {mg mb : Str → Option Value} {h₀ base : Heap} {L fa : Addr} {cd : Value} {m : Str → Option Value} {s : Shared} {Q : Flow → Shared → Prop} {E : Value → Shared → Prop}
theorem law3 (B : Below callerA base [] h₀) (F : Fr h₀ L s.heap m) (T : Top q0 (looseW q0 loose0) mean mg mb h₀) {news : Led} (N : News h₀ L s.heap news) {c1 : Obj} {total : Int} {tt : Tok} (hc : (L + 1, c1) ∈ news) (d1 : c1.data = .cell (some (.int total tt)))
    (next : ∀ (h' : Heap) (tk' : Nat) (m' : Str → Option Value) (M : Addr) (qs : List (Str × Tok)), Fr h₀ L h' m' → News h₀ L h' ((M, lst (qs.map strO.val)) :: news) → AllLt M news → m' (Str.ofString "modules") = some (.ref M) → (∀ z, z ≠ Str.ofString "modules" → m' z = m z) →
      qs.map (·.1) = picked total 0 mods4 4 → lawWp w L fa cd 4 Q E { s with heap := h', toks := tk' }) : (hd.heap_1 w.params).In h₀ → lawWp w L fa cd 3 Q E s := by
  have mk24 : True := .intro
  unfold lawWp at next ⊢
  k_fill
  intro X
  k_with "m:own" => ((fail_if_success fail_if_success clear mk24); (((with_reducible show wpAny _ _ (eval (PySem.Expr.Name _ _) (envOfC _ _ _ _ _)) _ _ _); k_dflt (refine' nameX_L ?F ?v ?_ ?a ?b; (case F => k_asm); (case v => with_reducible assumption); (case a => rfl); (case b => rfl); k_whole))))
  k_with "m:stop" => ((fail_if_success fail_if_success clear mk24); ((with_reducible show wpAny _ _ (call (Value.type "enumerate") _) _ _ _)))
  k_extra "m:steps"
  k_dflt (refine cg_assign F (by with_unfolding_all rfl) (by with_unfolding_all rfl) (by decide) (by rfl) (by decide) (by rfl) (by rfl) ?_)
  k_extra "m:steps"
  (rename Fr _ _ _ _ => Fn)
  (rename News _ _ _ _ => Nn)
  k_dflt (refine strs_names Nn [(_, _), (_, _), (_, _), (_, _)] (names := mods4) rfl rfl ?_)
  clear Nn
  intro nm hnm hnl Nn
  have hn4 : nm.length = 4 := hnl
  (rename Addr => l9)
  (rename ∀ p ∈ news, _ => l1)
  k_with "m:own" => ((fail_if_success fail_if_success clear mk24); (((with_reducible show wpAny _ _ (eval (PySem.Expr.Name _ _) (compEnvC _ _ _ _)) _ _ _); k_dflt (refine kcf_cell (by k_asm) (by rfl) (by repeat (first | exact hc | refine List.Mem.tail _ ?_)) d1 ?_))))
  k_dflt (refine' cg_enum (vs := nm.map strO.val) (k := 0) ?k1 ?k2 ?k3 ?k4 ?k5 ?k6 ?k7 ?k8 ?k9 (fun i ys nw => (∃ qs : List (Str × Tok), ys = qs.map strO.val ∧ qs.map (·.1) = picked total 0 (nm.map (·.1)) i) ∧ nw = (l9, listOf (nm.map strO.val).toArray 0) :: news) ?kJ ?turn ?fin; (case k1 => exact rfl); (case k2 => k_asm); (case k3 => k_asm); (case k4 => k_mem); (case k5 => simp; unfold sizeLine; lia); (case k6 => exact rfl); (case k7 => exact rfl); (case k8 => decide); (case k9 => exact rfl); (case kJ => exact ⟨⟨[], rfl, rfl⟩, rfl⟩))
  case turn =>
    intro i ys nw hi hG16 I1 o1 I2 o2 C7 oC7 D8 m7 h5 tk5 E5 hG17 hy7 hC7 F5 N6 off5
    refine gen_P fun R9 hR9 => ?_
    obtain ⟨⟨qs, rfl, hqs⟩, rfl⟩ := hG16
    obtain ⟨t7, hx7⟩ := hG17
    refine of_P hR9 ?_
    clear hR9 R9
    rw [List.length_map] at hi
    rw [getD_strs hi] at hy7
    refine wpAny_tests_one ?_
    k_extra "m:steps"
    · (rename Int.fmod _ _ = _ => hbit)
      exact cg_end _ F5 N6 (fun p hp => hp) off5 (fun p hp => by rw [List.mem_singleton.mp hp]; k_mem) ⟨⟨qs ++ [nm.getD i default], by rw [List.map_append]; rfl, picked_hit hqs hbit⟩, rfl⟩
    · (rename Int.fmod _ _ ≠ _ => hbit)
      exact cg_end _ F5 N6 (fun p hp => hp) off5 (fun p hp => by rw [List.mem_singleton.mp hp]; k_mem) ⟨⟨qs, rfl, picked_miss hqs hbit⟩, rfl⟩
  case fin =>
    rintro D7 ys nw g7 ⟨⟨qs, rfl, hqs⟩, rfl⟩ offD7 ltD7 h5 tk5 F5 N6
    rw [List.length_map, hn4, hnm] at hqs
    exact next _ _ _ D7 qs F5 (fun p hp => N6 p (by
      rcases List.mem_cons.mp hp with rfl | hp
      · exact .head _
      · exact .tail _ (.tail _ hp))) (allLt_of fun p hp => ltD7 p (.tail _ hp)) (if_pos rfl) (fun z hz => if_neg hz) hqs
theorem law4 (B : Below callerA base [] h₀) (F : Fr h₀ L s.heap m) (T : Top q0 (looseW q0 loose0) mean mg mb h₀) {news : Led} (N : News h₀ L s.heap news) {c1 : Obj} {total : Int} {tt : Tok} (hc : (L + 1, c1) ∈ news) (d1 : c1.data = .cell (some (.int total tt)))
    (next : ∀ (h' : Heap) (tk' : Nat) (m' : Str → Option Value) (M : Addr) (qs : List (Str × Tok)), Fr h₀ L h' m' → News h₀ L h' ((M, lst (qs.map strO.val)) :: news) → AllLt M news → m' (Str.ofString "written") = some (.ref M) → (∀ z, z ≠ Str.ofString "written" → m' z = m z) →
      qs.map (·.1) = picked total 4 writ4 4 → lawWp w L fa cd 5 Q E { s with heap := h', toks := tk' }) : (hd.heap_1 w.params).In h₀ → lawWp w L fa cd 4 Q E s := by
  have mk25 : True := .intro
  unfold lawWp at next ⊢
  k_fill
  intro X
  k_with "m:own" => ((fail_if_success fail_if_success clear mk25); (((with_reducible show wpAny _ _ (eval (PySem.Expr.Name _ _) (envOfC _ _ _ _ _)) _ _ _); k_dflt (refine' nameX_L ?F ?v ?_ ?a ?b; (case F => k_asm); (case v => with_reducible assumption); (case a => rfl); (case b => rfl); k_whole))))
  k_with "m:own" => ((fail_if_success fail_if_success clear mk25); (((with_reducible refine add4_nat ?_); intro tk')))
  k_with "m:stop" => ((fail_if_success fail_if_success clear mk25); ((with_reducible show wpAny _ _ (call (Value.type "enumerate") _) _ _ _)))
  k_extra "m:steps"
  k_dflt (refine cg_assign F (by with_unfolding_all rfl) (by with_unfolding_all rfl) (by decide) (by rfl) (by decide) (by rfl) (by rfl) ?_)
  k_extra "m:steps"
  (rename Fr _ _ _ _ => Fn)
  (rename News _ _ _ _ => Nn)
  k_dflt (refine strs_names Nn [(_, _), (_, _), (_, _), (_, _)] (names := writ4) rfl rfl ?_)
  clear Nn
  intro nm hnm hnl Nn
  have hn4 : nm.length = 4 := hnl
  (rename Addr => l9)
  (rename ∀ p ∈ news, _ => l1)
  k_with "m:own" => ((fail_if_success fail_if_success clear mk25); (((with_reducible show wpAny _ _ (eval (PySem.Expr.Name _ _) (compEnvC _ _ _ _)) _ _ _); k_dflt (refine kcf_cell (by k_asm) (by rfl) (by repeat (first | exact hc | refine List.Mem.tail _ ?_)) d1 ?_))))
  k_dflt (refine' cg_enum (vs := nm.map strO.val) (k := 0) ?k1 ?k2 ?k3 ?k4 ?k5 ?k6 ?k7 ?k8 ?k9 (fun i ys nw => (∃ qs : List (Str × Tok), ys = qs.map strO.val ∧ qs.map (·.1) = picked total 4 (nm.map (·.1)) i) ∧ nw = (l9, listOf (nm.map strO.val).toArray 0) :: news) ?kJ ?turn ?fin; (case k1 => exact rfl); (case k2 => k_asm); (case k3 => k_asm); (case k4 => k_mem); (case k5 => simp; unfold sizeLine; lia); (case k6 => exact rfl); (case k7 => exact rfl); (case k8 => decide); (case k9 => exact rfl); (case kJ => exact ⟨⟨[], rfl, rfl⟩, rfl⟩))
  case turn =>
    intro i ys nw hi hG18 I1 o1 I2 o2 C7 oC7 D8 m7 h5 tk5 E5 hG19 hy7 hC7 F5 N6 off5
    refine gen_P fun R9 hR9 => ?_
    obtain ⟨⟨qs, rfl, hqs⟩, rfl⟩ := hG18
    obtain ⟨t7, hx7⟩ := hG19
    refine of_P hR9 ?_
    clear hR9 R9
    rw [List.length_map] at hi
    rw [getD_strs hi] at hy7
    refine wpAny_tests_one ?_
    k_extra "m:steps"
    · (rename Int.fmod _ _ = _ => hbit)
      exact cg_end _ F5 N6 (fun p hp => hp) off5 (fun p hp => by rw [List.mem_singleton.mp hp]; k_mem) ⟨⟨qs ++ [nm.getD i default], by rw [List.map_append]; rfl, picked_hit hqs hbit⟩, rfl⟩
    · (rename Int.fmod _ _ ≠ _ => hbit)
      exact cg_end _ F5 N6 (fun p hp => hp) off5 (fun p hp => by rw [List.mem_singleton.mp hp]; k_mem) ⟨⟨qs, rfl, picked_miss hqs hbit⟩, rfl⟩
  case fin =>
    rintro D7 ys nw g7 ⟨⟨qs, rfl, hqs⟩, rfl⟩ offD7 ltD7 h5 tk5 F5 N6
    rw [List.length_map, hn4, hnm] at hqs
    exact next _ _ _ D7 qs F5 (fun p hp => N6 p (by
      rcases List.mem_cons.mp hp with rfl | hp
      · exact .head _
      · exact .tail _ (.tail _ hp))) (allLt_of fun p hp => ltD7 p (.tail _ hp)) (if_pos rfl) (fun z hz => if_neg hz) hqs
theorem law5 (B : Below callerA base [] h₀) (F : Fr h₀ L s.heap m) (T : Top q0 (looseW q0 loose0) mean mg mb h₀) {news : Led} (N : News h₀ L s.heap news) {c1 : Obj} {total : Int} {tt : Tok} (hc : (L + 1, c1) ∈ news) (d1 : c1.data = .cell (some (.int total tt)))
    (next : ∀ (h' : Heap) (tk' : Nat) (m' : Str → Option Value) (M : Addr) (qs : List (Str × Tok)), Fr h₀ L h' m' → News h₀ L h' ((M, lst (qs.map strO.val)) :: news) → AllLt M news → m' (Str.ofString "plain") = some (.ref M) → (∀ z, z ≠ Str.ofString "plain" → m' z = m z) →
      qs.map (·.1) = picked total 4 plain4 4 → lawWp w L fa cd 6 Q E { s with heap := h', toks := tk' }) : (hd.heap_1 w.params).In h₀ → lawWp w L fa cd 5 Q E s := by
  have mk26 : True := .intro
  unfold lawWp at next ⊢
  k_fill
  intro X
  k_with "m:own" => ((fail_if_success fail_if_success clear mk26); (((with_reducible show wpAny _ _ (eval (PySem.Expr.Name _ _) (envOfC _ _ _ _ _)) _ _ _); k_dflt (refine' nameX_L ?F ?v ?_ ?a ?b; (case F => k_asm); (case v => with_reducible assumption); (case a => rfl); (case b => rfl); k_whole))))
  k_with "m:own" => ((fail_if_success fail_if_success clear mk26); (((with_reducible refine add4_nat ?_); intro tk')))
  k_with "m:stop" => ((fail_if_success fail_if_success clear mk26); ((with_reducible show wpAny _ _ (call (Value.type "enumerate") _) _ _ _)))
  k_extra "m:steps"
  k_dflt (refine cg_assign F (by with_unfolding_all rfl) (by with_unfolding_all rfl) (by decide) (by rfl) (by decide) (by rfl) (by rfl) ?_)
  k_extra "m:steps"
  (rename Fr _ _ _ _ => Fn)
  (rename News _ _ _ _ => Nn)
  k_dflt (refine strs_names Nn [(_, _), (_, _), (_, _), (_, _)] (names := plain4) rfl rfl ?_)
  clear Nn
  intro nm hnm hnl Nn
  have hn4 : nm.length = 4 := hnl
  (rename Addr => l9)
  (rename ∀ p ∈ news, _ => l1)
  k_with "m:own" => ((fail_if_success fail_if_success clear mk26); (((with_reducible show wpAny _ _ (eval (PySem.Expr.Name _ _) (compEnvC _ _ _ _)) _ _ _); k_dflt (refine kcf_cell (by k_asm) (by rfl) (by repeat (first | exact hc | refine List.Mem.tail _ ?_)) d1 ?_))))
  k_dflt (refine' cg_enum (vs := nm.map strO.val) (k := 0) ?k1 ?k2 ?k3 ?k4 ?k5 ?k6 ?k7 ?k8 ?k9 (fun i ys nw => (∃ qs : List (Str × Tok), ys = qs.map strO.val ∧ qs.map (·.1) = picked total 4 (nm.map (·.1)) i) ∧ nw = (l9, listOf (nm.map strO.val).toArray 0) :: news) ?kJ ?turn ?fin; (case k1 => exact rfl); (case k2 => k_asm); (case k3 => k_asm); (case k4 => k_mem); (case k5 => simp; unfold sizeLine; lia); (case k6 => exact rfl); (case k7 => exact rfl); (case k8 => decide); (case k9 => exact rfl); (case kJ => exact ⟨⟨[], rfl, rfl⟩, rfl⟩))
  case turn =>
    intro i ys nw hi hG20 I1 o1 I2 o2 C7 oC7 D8 m7 h5 tk5 E5 hG21 hy7 hC7 F5 N6 off5
    refine gen_P fun R9 hR9 => ?_
    obtain ⟨⟨qs, rfl, hqs⟩, rfl⟩ := hG20
    obtain ⟨t7, hx7⟩ := hG21
    refine of_P hR9 ?_
    clear hR9 R9
    rw [List.length_map] at hi
    rw [getD_strs hi] at hy7
    refine wpAny_tests_one ?_
    k_extra "m:steps"
    · (rename Int.fmod _ _ = _ => hbit)
      exact cg_end _ F5 N6 (fun p hp => hp) off5 (fun p hp => by rw [List.mem_singleton.mp hp]; k_mem) ⟨⟨qs ++ [nm.getD i default], by rw [List.map_append]; rfl, picked_hit hqs hbit⟩, rfl⟩
    · (rename Int.fmod _ _ ≠ _ => hbit)
      exact cg_end _ F5 N6 (fun p hp => hp) off5 (fun p hp => by rw [List.mem_singleton.mp hp]; k_mem) ⟨⟨qs, rfl, picked_miss hqs hbit⟩, rfl⟩
  case fin =>
    rintro D7 ys nw g7 ⟨⟨qs, rfl, hqs⟩, rfl⟩ offD7 ltD7 h5 tk5 F5 N6
    rw [List.length_map, hn4, hnm] at hqs
    exact next _ _ _ D7 qs F5 (fun p hp => N6 p (by
      rcases List.mem_cons.mp hp with rfl | hp
      · exact .head _
      · exact .tail _ (.tail _ hp))) (allLt_of fun p hp => ltD7 p (.tail _ hp)) (if_pos rfl) (fun z hz => if_neg hz) hqs
end

end

-- text: Law6
theorem setup_Law6 : True := by
  k_with_none
  w_top off
  k_with "m:own" => ((with_reducible show wpAny _ _ (subscriptTail _ _ (Value.ref _) (Value.int _ _)) _ _ _); k_dflt (refine' item_ledN (ι := ?ki) ?k1 ?k2 ?k4 ?k5 ?_ ?k7; (case k1 => k_asm); (case k2 => k_mem); (case ki => infer_instance); (case k4 => lia); (case k5 => lia); (case k7 => with_unfolding_all rfl); k_whole))
  k_with "m:own" => ((with_reducible show wpAny _ _ (subscriptTail _ _ (Value.ref _) (Value.int 0 _)) _ _ _); k_dflt (refine' item_led0 (ι := ?ki) ?k1 ?k2 ?k4 ?k5 ?_ ?k7; (case k1 => k_asm); (case k2 => k_mem); (case ki => infer_instance); (case k4 => lia); (case k5 => lia); (case k7 => with_unfolding_all rfl); k_whole))
  k_with "m:own" => ((with_reducible show wpAny _ _ (setItem (Value.ref _) (Value.int 0 _) _) _ _ _); k_dflt (refine' set_led0 ?k1 ?k2 ?k3 ?k5 ?k6 ?_; (case k1 => k_asm); (case k2 => k_asm); (case k3 => first | exact Upd.head (by assumption) | k_upd); (case k5 => lia); (case k6 => lia); k_whole); intro h' F' N'; (try k_sweep))
  k_with "m:own" => ((with_reducible show wpAny _ _ (setItem (Value.ref _) (Value.int _ _) _) _ _ _); k_dflt (refine' set_ledN ?k1 ?k2 ?k3 ?k5 ?k6 ?_; (case k1 => k_asm); (case k2 => k_asm); (case k3 => first | exact Upd.head (by assumption) | k_upd); (case k5 => lia); (case k6 => lia); k_whole); intro h' F' N'; (try k_sweep))
  k_with "m:own" => ((with_reducible show wpAny _ _ (compareOp CmpOp.Lt (Ordr.val _ _) (Ordr.val _ _)) _ _ _); k_dflt (refine' Ordr.cmp1 _ ?k1 ?k2 ?k3 ?k4 ?_; (case k1 => k_asm); (case k2 => first | assumption | exact ok_get! (by assumption) (by lia)); (case k3 => first | assumption | exact ok_get! (by assumption) (by lia)); (case k4 => ktr_units); k_whole); intro tk')
  k_with "m:own" => ((with_reducible refine shr_one ?kb1 ?_); (case kb1 => lia))
  k_with "m:own" => ((with_reducible show wpAny _ _ (call (Value.builtin "len") [Value.ref _]) _ _ _); k_dflt (refine' len_led ?k1 ?k2 ?k3 ?_; (case k1 => k_asm); (case k2 => k_mem); (case k3 => lia); k_whole); intro tl' tk')
  k_with "m:own" => ((with_reducible refine add1_nat ?_); intro tk')
  k_with "m:own" => ((with_reducible refine mul2_nat ?_); intro tk')
  k_with "m:own" => ((with_reducible show wpAny _ _ (call (Value.builtin "list.append") [Value.ref _, Ordr.val _ _]) _ _ _); k_dflt (refine' append_led ?k1 ?k2 ?k3 ?k5 ?_; (case k1 => k_asm); (case k2 => k_asm); (case k3 => first | exact Upd.head (by assumption) | k_upd); (case k5 => unfold sizeLine; lia); k_whole); intro h' F' N'; (try k_sweep))
  k_with "m:own" => ((with_reducible show wpAny _ _ (truthy (Value.ref _)) _ _ _); k_dflt (refine' truthy_led ?k1 ?k2 ?k5 ?_; (case k1 => k_asm); (case k2 => k_mem); (case k5 => unfold sizeLine; lia); k_whole); intro tk')
  k_with "m:own" => ((with_reducible refine half_nat ?_); intro tk')
  k_with "m:own" => ((with_reducible show wpAny _ _ (subscriptTail _ _ (Value.ref _) (Value.int (-1) _)) _ _ _); k_dflt (refine' item_lastS ?k1 ?k2 ?k4 ?k5 ?_ ?k7; (case k1 => k_asm); (case k2 => k_mem); (case k4 => first | assumption | lia); (case k5 => first | assumption | lia); (case k7 => with_unfolding_all rfl); k_whole); (try (have hle' := last_len es' hp')))
  k_with "m:own" => ((with_reducible show wpAny _ _ (call (Value.builtin "str.split") [Value.str _ _, Value.str _ _]) _ _ _); k_dflt (refine' split_led ?k1 ?k2 ?k3 ?_ ?k5; (case k1 => k_asm); (case k2 => k_asm); (case k3 => decide); (case k5 => unfold sizeLine; lia); k_whole); intro Ds' ls' h' tk' es' hp' hw' F' N' l1'; (try k_sweep))
  k_with "m:own" => ((with_reducible show wpAny _ _ (call (Value.builtin "str.join") [Value.str _ _, Value.ref _]) _ _ _); k_dflt (refine' join_led ?k1 ?k2 ?k3 ?_; (case k1 => k_asm); (case k2 => k_mem); (case k3 => k_extra "m:sizes"); k_whole); intro t' tk')
  k_with "m:own" => ((with_reducible show wpAny _ _ (subscriptTail _ (PySem.Expr.Slice none (some _) none _) (Value.ref _) (Value.ref _)) _ _ _); k_dflt (refine' slice_led ?k1 ?k2 ?k3 (IsPart.none) (IsPart.int (-1) _) (pick_init _) ?_ ?s ?t ?z; (case k1 => k_asm); (case k2 => k_asm); (case k3 => k_mem); (case s => with_unfolding_all rfl); (case t => intro _; with_unfolding_all rfl); (case z => unfold sizeLine; lia); k_whole); intro Dl' h' F' N' l1'; (try k_sweep))
  k_with "m:enterC" => (refine' code_defC ?k1 ?k2 ?k3 ?k4 ?k5 ?kA ?kF ?kK ?k6 ?k7 ?k8 ?k9 ?kB ?kD ?_ ?c2 ?c3 ?c4; (case kA => exact rfl); (case kF => exact rfl); (case kK => assumption); (case k1 => k_asm); (case k2 => k_asm); (case k3 => k_asm); (case k4 => k_asm); (case k5 => k_asm); (case k6 => k_is); (case k7 => k_is); (case k8 => ktr_room); (case k9 => exact BindsTo.of_eq rfl); (case kB => exact rfl); (case kD => decide +kernel); (case c2 => exact rfl); (case c3 => exact rfl); (case c4 => exact rfl); k_whole; intro g' L' h' tk' cells' FG' F' N' Y' B' X' T' l1'; k_cells Y'; (try simp only [List.cons_append, List.nil_append] at N'); (try dsimp only); (try k_lift B'); (try k_fold))
  k_with "m:enterD" => (refine' code_defC ?k1 ?k2 ?k3 ?k4 ?k5 ?kA ?kF ?kK ?k6 ?k7 ?k8 ?k9 ?kB ?kD ?_ ?c2 ?c3 ?c4; (case kA => exact rfl); (case kF => exact rfl); (case kK => assumption); (case k1 => k_asm); (case k2 => k_asm); (case k3 => k_asm); (case k4 => k_asm); (case k5 => k_asm); (case k6 => k_is); (case k7 => k_is); (case k8 => ktr_room); (case k9 => exact binds_K (by k_in) rfl (by k_is) rfl rfl rfl); (case kB => exact rfl); (case kD => decide +kernel); (case c2 => exact rfl); (case c3 => exact rfl); (case c4 => exact rfl); k_whole; intro g' L' h' tk' cells' FG' F' N' Y' B' X' T' l1'; k_cells Y'; (try simp only [List.cons_append, List.nil_append] at N'); (try dsimp only); (try k_lift B'); (try k_fold))
  k_with "m:enterK" => (refine' code_def ?k1 ?k2 ?k3 ?k4 ?k5 ?kA ?kF ?kK ?k6 ?k7 ?k8 ?k9 ?kB ?_ ?c2 ?c3 ?c4 ?c5; (case kA => exact rfl); (case kF => exact rfl); (case kK => assumption); (case k1 => k_asm); (case k2 => k_asm); (case k3 => k_asm); (case k4 => k_asm); (case k5 => k_asm); (case k6 => k_is); (case k7 => k_is); (case k8 => ktr_room); (case k9 => first | exact BindsTo.of_eq rfl | exact binds_K (by k_in) rfl (by k_is) rfl rfl rfl); (case c5 => decide); (case kB => exact locs rfl); (case c2 => exact rfl); (case c3 => exact rfl); (case c4 => exact rfl); k_whole; intro g' L' h' FG' F' N' B' X' T'; (try dsimp only); (try k_lift B'); (try k_fold))
  k_with "m:comp" => (k_dflt (refine LCg.ListComp_U (F₀ := by k_asm) (by with_unfolding_all rfl) (by decide) (by rfl) (by decide) (by rfl) ?_))
  k_with "m:own" => ((with_reducible show wpAny _ _ (binaryOp Operator.Pow (Value.int _ _) (Value.int (Nat.cast _) _)) _ _ _); (with_reducible refine pow_small ?k1 ?k2 ?_); (case k1 => decide); (case k2 => lia); intro tk')
  k_with "m:own" => ((with_reducible show wpAny _ _ (subscriptTail _ _ (Value.ref _) (Value.int _ _)) _ _ _); k_dflt (refine' item_any ?k1 ?k2 ?k3 ?k4 ?k5 ?_ ?k7; (case k1 => k_asm); (case k2 => k_mem); (case k3 => assumption); (case k4 => first | assumption | (refine Int.lt_of_lt_of_le (by assumption) ?_; decide)); (case k5 => first | decide | (show _ < _; lia)); (case k7 => with_unfolding_all rfl); k_whole))
  k_with "m:own" => ((with_reducible refine fdiv_pow ?k1 ?k2 ?_); (case k1 => decide); (case k2 => lia); intro tk')
  k_with "m:own" => ((with_reducible show wpAny _ _ (call (Value.builtin "list.index") [Value.ref _, Value.str _ _]) _ _ _); k_dflt (refine' index_strs ?k1 ?k2 ?k3 ?k4 ?_; (case k1 => k_asm); (case k2 => k_mem); (case k3 => assumption); (case k4 => assumption); k_whole); intro tk')
  k_with "m:own" => ((with_reducible show wpAny _ _ (subscriptTail _ (PySem.Expr.Slice none (some _) none _) (Value.ref _) (Value.ref _)) _ _ _); k_dflt (refine' slice_led ?k1 ?k2 ?k3 (IsPart.none) (IsPart.int (Nat.cast _) _) (pick_upto _ _) ?_ ?s ?t ?z; (case k1 => k_asm); (case k2 => k_asm); (case k3 => k_mem); (case s => with_unfolding_all rfl); (case t => intro _; with_unfolding_all rfl); (case z => unfold sizeLine; lia); k_whole); intro Dl' h' F' N' l1'; (try k_sweep))
  k_with "m:own" => ((with_reducible show wpAny _ _ (subscriptTail _ (PySem.Expr.Slice (some _) none none _) (Value.ref _) (Value.ref _)) _ _ _); k_dflt (refine' slice_led ?k1 ?k2 ?k3 (IsPart.int (Nat.cast _) _) (IsPart.none) (pick_from _ _) ?_ ?s ?t ?z; (case k1 => k_asm); (case k2 => k_asm); (case k3 => k_mem); (case s => with_unfolding_all rfl); (case t => intro _; with_unfolding_all rfl); (case z => unfold sizeLine; lia); k_whole); intro Dl' h' F' N' l1'; (try k_sweep))
  k_with "m:enterB" => (refine' kp_both ?k1 ?k2 ?k3 ?k4 ?k5 ?kA ?kF ?kK ?k6 ?k7 ?k8 ?kV ?kX ?kQ ?kM ?kN ?kD ?kR ?kP ?kS ?kT ?kB ?_ ?c2 ?c3 ?c4 ?c5; (case kA => exact rfl); (case kF => exact rfl); (case kK => assumption); (case k1 => k_asm); (case k2 => k_asm); (case k3 => k_asm); (case k4 => k_asm); (case k5 => k_asm); (case k6 => k_is); (case k7 => k_is); (case k8 => ktr_room); (case kV => kp_lit); (case kX => kp_lit); (case kQ => exact rfl); (case kM => exact rfl); (case kN => exact rfl); (case kD => kp_flats); (case kR => exact rfl); (case kP => exact rfl); (case kS => exact fun _ => rfl); (case kT => exact fun _ _ => rfl); (case kB => exact fun _ _ => locs rfl); (case c5 => decide); (case c2 => exact rfl); (case c3 => exact rfl); (case c4 => exact rfl); k_whole; intro C' D' o' g' L' h' tk' l1 l2 lo' hs' fs' FG' F' N' B' X' T'; (try dsimp only); (try k_lift B'); (try k_fold))
  k_with "m:own" => ((with_reducible show wpAny _ _ (call (Value.builtin "list.append") [Value.ref _, Value.str _ _]) _ _ _); k_dflt (refine' append_strs ?k1 ?k2 ?k3 ?k5 ?_; (case k1 => k_asm); (case k2 => k_asm); (case k3 => first | exact Upd.head (by assumption) | exact Upd.tail (by assumption) (Upd.head (by assumption)) | k_upd); (case k5 => unfold sizeLine; lia); k_whole); intro h' F' N'; (try k_sweep))
  k_with "m:same" => first | (intro z hp hz; (try dsimp only); (repeat (first | exact same_kst hz | refine same_ite (ne_c rfl hz) ?_)); done) | ksw_same
  k_with "m:use" => ((case k1 => k_asm); (case k2 => k_asm); (case k3 => k_asm); (case k4 => k_asm); (case k5 => k_asm); (case k6 => exact rfl); (case k7 => first | exact room2 (by assumption) rfl | exact room3 (by assumption) rfl | exact room4 (by assumption) rfl | exact room5 (by assumption) rfl | ktr_room); (case k8 => first | exact room2 (by assumption) rfl | exact room3 (by assumption) rfl | exact room4 (by assumption) rfl | exact room5 (by assumption) rfl | ktr_units))
  k_with "m:steps" => repeat' (
    (fail_if_success (with_reducible show wpAny _ _ (exec (Stmt.While _ _ _ _) _) _ _ _))
    (fail_if_success (with_reducible show wpAny _ _ (exec (Stmt.For _ _ _ _ _) _) _ _ _))
    (fail_if_success (with_reducible show wpAny _ _ (eval (PySem.Expr.ListComp _ _ _ _) _) _ _ _))
    (fail_if_success (with_reducible show wpAny _ _ (exec (Stmt.Assign _ (PySem.Expr.ListComp _ _ _ _) _) _) _ _ _))
    (fail_if_success (with_reducible show LCg.CompSrc _ _ _ _ _ _ _ _ _ _ _ _ _ _))
    (fail_if_success (with_reducible show LCg.CompRest _ _ _ _ _ _ _ _ _ _ _ _ _ _ _ _ _ _ _))
    (fail_if_success (with_reducible show LCg.CompEnd _ _ _ _ _ _ _ _ _ _ _ _ _ _))
    (fail_if_success (with_reducible show ItEnd _ _ _ _ _ _ _ _ _ _ _))
    (fail_if_success (with_reducible show wpAny _ _ (call (Value.type "reversed") _) _ _ _))
    (fail_if_success (with_reducible show KswEnd _ _ _ _ _ _ _ _ _ _ _ _))
    (fail_if_success (k_extra "m:stop"))
    first | (k_unfold; (try dsimp only)) | ((with_reducible show wpAny _ _ (execs (_ :: _) _) _ _ _); k_fold) | k_extra "m:own" | walk1 | (dsimp only; walk1) | (leave1; walk_say "STEP leave1"; try dsimp only) | fail "no step")
  trivial
section
open PyProof.Rows.LCg (NsObj lst)
section
variable {w : World} {mean : ExcName → Option Value} {mg mb : Str → Option Value} {h₀ base : Heap} {L fa : Addr} {cd : Value} {m : Str → Option Value} {s : Shared} {Q : Flow → Shared → Prop} {E : Value → Shared → Prop}
theorem law6 (B : Below callerA base [] h₀) (F : Fr h₀ L s.heap m) (T : Top q0 (looseW q0 loose0) mean mg mb h₀) {news : Led} {lm ld : Addr} {mods dirs : List (Str × Tok)} (N : News h₀ L s.heap ((lm, lst (mods.map strO.val)) :: (ld, lst (dirs.map strO.val)) :: news)) (hM : m (Str.ofString "modules") = some (.ref lm)) (hW : m (Str.ofString "written") = some (.ref ld))
    (hmods : mods.length < 1000) (hdirs : dirs.length < 1000) (hnd : (mods.map (·.1)).Nodup) (hok : ∀ p ∈ dirs, DirOk p.1)
    (next : ∀ (h' : Heap) (tk' : Nat) (m' : Str → Option Value) (x dx S D G : Addr) (oS oG : Obj) (es : List (Str × Tok)) (n : Nat) (t1 t2 t3 t4 : Tok), Fr h₀ L h' m' →
      News h₀ L h' ((G, oG) :: (D, listOf (es.map strO.val).toArray n) :: (S, oS) :: (x, instObj 100 dx) :: (dx, igD w t1 t2 t3 S D G) :: (lm, lst (mods.map strO.val)) :: (ld, lst (dirs.map strO.val)) :: news) →
      SetO PySem.Challenge.rw_nq0173_01.row.prog w oS mods → es.map (·.1) = dirs.map (fun p => plainOf p.1) → Obj.IsDictOf (PySem.strKind PySem.Challenge.rw_nq0173_01.row.prog w) oG [(Str.ofString "<string>", .int 1 t4)] → (G == sysModules) = false →
      AllLt G ((D, listOf (es.map strO.val).toArray n) :: (S, oS) :: (x, instObj 100 dx) :: (dx, igD w t1 t2 t3 S D G) :: (lm, lst (mods.map strO.val)) :: (ld, lst (dirs.map strO.val)) :: news) →
      m' (Str.ofString "reader") = some (.ref x) → (∀ z, z ≠ Str.ofString "reader" → m' z = m z) → lawWp w L fa cd 7 Q E { s with heap := h', toks := tk' }) : (hd.heap_1 w.params).In h₀ → lawWp w L fa cd 6 Q E s := by
  have mk27 : True := .intro
  unfold lawWp at next ⊢
  k_fill
  intro X
  k_with "m:own" => ((fail_if_success fail_if_success clear mk27); (((with_reducible show wpAny _ _ (eval (PySem.Expr.Name _ _) (envOfC _ _ _ _ _)) _ _ _); k_dflt (refine' nameX_L ?F ?v ?_ ?a ?b; (case F => k_asm); (case v => with_reducible assumption); (case a => rfl); (case b => rfl); k_whole))))
  k_with "m:stop" => ((fail_if_success fail_if_success clear mk27); ((with_reducible show wpAny _ _ (call (Value.ref _) _) _ _ _)))
  k_with "m:stop" => ((fail_if_success fail_if_success clear mk27); ((with_reducible show wpAny _ _ (execs (Stmt.Assign [PySem.Expr.Name (Str.ofString "half") _] _ _ :: _) _) _ _ _)))
  k_extra "m:steps"
  k_dflt (refine' Con.use ?k1 ?k2 ?k3 ?k4 ?k5 ?k6 (ignore_con hmods hdirs hnd hok) ?k7 ?k8 ?_)
  k_extra "m:use"
  intro _ _ h' tk' F' N' hG22
  clear F N
  induction hG22
  rename_i x dx S D G oS oG es n t1 t2 t3 t4 hS hes hG hGs hlt
  k_extra "m:steps"
  (rename Fr _ _ _ _ => Fn)
  (rename News _ _ _ _ => Nn)
  exact next _ _ _ x dx S D G oS oG es n t1 t2 t3 t4 Fn Nn hS hes hG hGs hlt (if_pos rfl) (fun z hz => if_neg hz)
end

end

-- text: Law7
section
open PyProof.Rows.LCg (NsObj lst)
section
variable {w : World} {mean : ExcName → Option Value} {mg mb : Str → Option Value} {h₀ base : Heap} {L fa : Addr} {cd : Value} {m : Str → Option Value} {s : Shared} {Q : Flow → Shared → Prop} {E : Value → Shared → Prop}
theorem law7 (B : Below callerA base [] h₀) (F : Fr h₀ L s.heap m) (T : Top q0 (looseW q0 loose0) mean mg mb h₀) {news : Led} {D : Addr} {ps : List (Str × Tok)} (N : News h₀ L s.heap ((D, lst (ps.map strO.val)) :: news)) (hD : m (Str.ofString "paths") = some (.ref D)) (hlen : ps.length < 100)
    (next : ∀ (h' : Heap) (tk' : Nat) (m' : Str → Option Value) (H Tl : Addr) (tf : Tok), Fr h₀ L h' m' → News h₀ L h' ((Tl, listOf #[Value.none] 0) :: (H, listOf ((hfy strO.lt (ps.length / 2 / 2) (ps.take (ps.length / 2))).map strO.val).toArray 0) :: (D, lst (ps.map strO.val)) :: news) →
      AllLt H ((D, lst (ps.map strO.val)) :: news) → @LT.lt Nat _ H Tl → AllLt Tl ((D, lst (ps.map strO.val)) :: news) → m' (Str.ofString "heap") = some (.ref H) → m' (Str.ofString "told") = some (.ref Tl) → m' (Str.ofString "half") = some (.int ((ps.length / 2 : Nat) : Int) tf) →
      (∀ z, z ≠ Str.ofString "half" → z ≠ Str.ofString "heap" → z ≠ Str.ofString "told" → m' z = m z) → lawWp w L fa cd 10 Q E { s with heap := h', toks := tk' }) : (hd.heap_1 w.params).In h₀ → lawWp w L fa cd 7 Q E s := by
  have mk28 : True := .intro
  unfold lawWp at next ⊢
  k_fill
  intro X
  k_with "m:own" => ((fail_if_success fail_if_success clear mk28); (((with_reducible show wpAny _ _ (eval (PySem.Expr.Name _ _) (envOfC _ _ _ _ _)) _ _ _); k_dflt (refine' nameX_L ?F ?v ?_ ?a ?b; (case F => k_asm); (case v => with_reducible assumption); (case a => rfl); (case b => rfl); k_whole))))
  k_with "m:own" => ((fail_if_success fail_if_success clear mk28); (((with_reducible show wpAny _ _ (eval (PySem.Expr.Name (Str.ofString "paths") _) (envOfC _ _ _ _ _)) _ _ _); k_dflt (refine' nameX_L ?F ?v ?_ ?a ?b; (case F => k_asm); (case v => exact hD); (case a => rfl); (case b => rfl); k_whole))))
  k_with "m:stop" => ((fail_if_success fail_if_success clear mk28); ((with_reducible show wpAny _ _ (call (Value.ref _) _) _ _ _)))
  k_extra "m:steps"
  have hoff : ∀ p ∈ (D, lst (ps.map strO.val)) :: news, p.1 ≠ Dl' := fun p hp => Nat.ne_of_lt (l1' p hp)
  have htl : (ps.take (ps.length / 2)).length = ps.length / 2 := by rw [List.length_take]; lia
  k_dflt (refine' Con.use2 ?k1 ?k2 ?k3 ?k4 ?k5 ?k6 (heapify_con strO (xs := ps.take (ps.length / 2)) (n := 0) hoff (fun _ _ => trivial) (by lia)) ?k7 ?k8 ?_)
  k_extra "m:use"
  intro h5 tk5 F5 N5
  rw [htl] at N5
  k_with "m:stop" => ((fail_if_success fail_if_success clear mk28); ((with_reducible show wpAny _ _ (newList _) _ _ _)))
  k_extra "m:steps"
  k_dflt (refine newList_K F5 N5 ?_)
  intro Tl h6 F6 N6 l6
  clear F5 N5
  k_with "m:stop" => ((fail_if_success fail_if_success clear mk28); ((with_reducible show wpAny _ _ (execs (Stmt.For _ _ _ _ _ :: _) _) _ _ _)))
  k_extra "m:steps"
  (rename Fr _ _ _ _ => Fn)
  (rename News _ _ _ _ => Nn)
  exact next _ _ _ Dl' Tl _ Fn Nn (allLt_of l1') (l6 _ (.head _)) (allLt_of fun p hp => l6 p (.tail _ hp)) rfl (if_pos rfl) rfl (fun z h1 h2 h3 => (if_neg h3).trans ((if_neg h2).trans (if_neg h1)))
end

end

-- text: Law10
section
open PyProof.Rows.LCg (NsObj lst)
/-- heappush on the items -/
noncomputable def hpush (xs : List (Str × Tok)) (x : Str × Tok) : List (Str × Tok) := sdown strO.lt (xs ++ [x]) x 0 xs.length
theorem hpush_length (xs : List (Str × Tok)) (x : Str × Tok) : (hpush xs x).length = xs.length + 1 := by
  unfold hpush
  rw [sdown_length, List.length_append]
  rfl
theorem pushes_length (ys : List (Str × Tok)) : ∀ xs : List (Str × Tok), (ys.foldl hpush xs).length = xs.length + ys.length := by
  induction ys with
  | nil => intro xs; rfl
  | cons y ys ih => intro xs; rw [List.foldl_cons, ih, hpush_length, List.length_cons]; omega
theorem news_front {h₀ h : Heap} {L : Addr} {x : Addr × Obj} {post : Led} (pre : Led) (N : News h₀ L h (pre ++ x :: post)) : News h₀ L h (x :: (pre ++ post)) := fun p hp => N p (by
  rcases List.mem_cons.mp hp with rfl | hp
  · exact List.mem_append.mpr (.inr (.head _))
  · rcases List.mem_append.mp hp with h | h
    · exact List.mem_append.mpr (.inl h)
    · exact List.mem_append.mpr (.inr (.tail _ h)))
theorem append_none {prog : Program} {w : World} {A : Around} {E : Value → Shared → Prop} {s : Shared} {h₀ : Heap} {L D : Addr} {m : Str → Option Value} {news news' : Led} {n k : Nat} {Q : Value → Shared → Prop} (F : Fr h₀ L s.heap m) (N : News h₀ L s.heap news) (U : Upd D (listOf (List.replicate k Value.none).toArray n) (listOf (List.replicate (k + 1) Value.none).toArray (n + 1)) news news') (hz : k ≤ sizeLine)
    (h : ∀ h', Fr h₀ L h' m → News h₀ L h' news' → Q .none { s with heap := h' }) : wpAny (model prog w) A (call (.builtin "list.append") [.ref D, .none]) Q E s := by
  have e : (List.replicate (k + 1) Value.none).toArray = (List.replicate k Value.none).toArray.push Value.none := by apply Array.toList_inj.mp; simp [List.replicate_succ']
  rw [e] at U
  exact append_K F N U h (by simpa using hz)
section
variable {w : World} {mean : ExcName → Option Value} {mg mb : Str → Option Value} {h₀ base : Heap} {L fa : Addr} {cd : Value} {m : Str → Option Value} {s : Shared} {Q : Flow → Shared → Prop} {E : Value → Shared → Prop}
theorem law10 (B : Below callerA base [] h₀) (F : Fr h₀ L s.heap m) (T : Top q0 (looseW q0 loose0) mean mg mb h₀) {news : Led} {D H Tl : Addr} {ps hs : List (Str × Tok)} {half : Nat} {tf : Tok} (N : News h₀ L s.heap ((Tl, listOf #[Value.none] 0) :: (H, listOf (hs.map strO.val).toArray 0) :: (D, lst (ps.map strO.val)) :: news))
    (hH : AllLt H ((D, lst (ps.map strO.val)) :: news)) (hHT : @LT.lt Nat _ H Tl) (hT : AllLt Tl ((D, lst (ps.map strO.val)) :: news))
    (hD : m (Str.ofString "paths") = some (.ref D)) (mH : m (Str.ofString "heap") = some (.ref H)) (mT : m (Str.ofString "told") = some (.ref Tl)) (mh : m (Str.ofString "half") = some (.int (half : Nat) tf)) (hlen : ps.length < 100) (hhl : hs.length < 100) (hE : PassesOwn (model PySem.Challenge.rw_nq0173_01.row.prog w) (callerA.deeper (lawE L fa cd)) (lawE L fa cd) E)
    (next : ∀ (h' : Heap) (tk' : Nat) (m' : Str → Option Value) (n1 n2 : Nat), Fr h₀ L h' m' → News h₀ L h' ((Tl, listOf (List.replicate (1 + (ps.drop half).length) Value.none).toArray n1) :: (H, listOf (((ps.drop half).foldl hpush hs).map strO.val).toArray n2) :: (D, lst (ps.map strO.val)) :: news) →
      (∀ z, z ≠ Str.ofString "path" → m' z = m z) → lawWp w L fa cd 11 Q E { s with heap := h', toks := tk' }) : (hd.heap_1 w.params).In h₀ → lawWp w L fa cd 10 Q E s := by
  have mk29 : True := .intro
  unfold lawWp at next ⊢
  k_fill
  intro X
  k_with "m:own" => ((fail_if_success fail_if_success clear mk29); (((with_reducible show wpAny _ _ (eval (PySem.Expr.Name _ _) (envOfC _ _ _ _ _)) _ _ _); k_dflt (refine' nameX_L ?F ?v ?_ ?a ?b; (case F => k_asm); (case v => with_reducible assumption); (case a => rfl); (case b => rfl); k_whole))))
  k_with "m:own" => ((fail_if_success fail_if_success clear mk29); (((with_reducible show wpAny _ _ (eval (PySem.Expr.Name (Str.ofString "told") _) (envOfC _ _ _ _ _)) _ _ _); k_dflt (refine' nameX_L ?F ?v ?_ ?a ?b; (case F => k_asm); (case v => exact mT); (case a => rfl); (case b => rfl); k_whole))))
  k_with "m:own" => ((fail_if_success fail_if_success clear mk29); (((with_reducible show wpAny _ _ (eval (PySem.Expr.Name (Str.ofString "heap") _) (envOfC _ _ _ _ _)) _ _ _); k_dflt (refine' nameX_L ?F ?v ?_ ?a ?b; (case F => k_asm); (case v => exact mH); (case a => rfl); (case b => rfl); k_whole))))
  k_with "m:stop" => ((fail_if_success fail_if_success clear mk29); ((with_reducible show wpAny _ _ (call (Value.ref _) _) _ _ _)))
  k_extra "m:steps"
  (rename Fr _ _ _ _ => Fn)
  k_dflt (refine For_turns (hE := hE) Fn ?_)
  k_extra "m:steps"
  (rename Fr _ _ _ _ => Fn)
  (rename News _ _ _ _ => Nn)
  generalize hqs : ps.drop half = qs at *
  have hql : qs.length < 100 := by rw [← hqs, List.length_drop]; omega
  have Nn' : News h₀ L _ ((Tl, listOf (List.replicate (1 + 0) Value.none).toArray 0) :: (H, listOf (hs.map strO.val).toArray 0) :: (Dl', listOf (qs.map strO.val).toArray 0) :: (D, lst (ps.map strO.val)) :: news) := news_front [_, _] (news_front [_, _] Nn)
  clear Nn
  k_dflt (refine iter_listTurns (vs := qs.map strO.val) (n := 0) rfl Fn Nn' (.tail _ (.tail _ (.head _))) rfl rfl ?_)
  clear Fn Nn'
  intro I hI
  have hTI : @LT.lt Nat _ Tl I := hI _ (.head _)
  have hHI : @LT.lt Nat _ H I := hI _ (.tail _ (.head _))
  have hTd : @LT.lt Nat _ Tl Dl' := l1' _ (.head _)
  have hHd : @LT.lt Nat _ H Dl' := l1' _ (.tail _ (.head _))
  have hoff : ∀ (a b o : Obj), ∀ p ∈ (Tl, a) :: (H, b) :: (Dl', listOf (qs.map strO.val).toArray 0) :: (D, lst (ps.map strO.val)) :: news, ∀ q ∈ [(I, o)], p.1 ≠ q.1 := fun a b o => off_one (lt_at2b hI)
  have hHo : ∀ p ∈ (D, lst (ps.map strO.val)) :: news, p.1 ≠ H := allLt_out hH
  have hTo : ∀ p ∈ (D, lst (ps.map strO.val)) :: news, p.1 ≠ Tl := allLt_out hT
  clear hI l1' hH hT
  k_dflt (refine items_st (σ := List (Str × Tok) × Nat) (fun c => (Tl, listOf (List.replicate (1 + c.2) Value.none).toArray c.2) :: (H, listOf (c.1.map strO.val).toArray c.2) :: (Dl', listOf (qs.map strO.val).toArray 0) :: (D, lst (ps.map strO.val)) :: news) (fun _ => []) [Str.ofString "path"] (fun items c => ∃ pre rest, items = rest.map (fun x : Str × Tok => Itm.val (.str x.1 x.2)) ∧ qs = pre ++ rest ∧ c.1 = pre.foldl hpush hs ∧ c.2 = pre.length) ?turn ?done _ (hs, 0) _ ⟨[], qs, by simp [strO, Function.comp_def], rfl, rfl, rfl⟩ (List.forall_mem_nil _) (fun _ _ _ => rfl))
  case turn =>
    intro a r
    refine elim2 ?_
    intro ys k u v h tk hP9 hv F9 o ho N9
    refine gen_P fun R9 hR9 => ?_
    obtain ⟨pre, rest, e1, e2, e3, e4⟩ := hP9
    refine of_P hR9 (gen_body fun R8 hR8 => ?_)
    clear hR9 R9
    k_with "m:own" => ((fail_if_success fail_if_success clear mk29); ((refine of_Q hR8 ?_; (try dsimp only))))
    cases rest with
    | nil => cases e1
    | cons x rest =>
      cases e1
      have hv' : v = .str x.1 x.2 := hv
      subst hv'
      have hyl : ys.length < 250 := by
        have := congrArg List.length e2
        rw [List.length_append] at this
        dsimp only at e3
        rw [e3, pushes_length]; omega
      have hkl : k < 100 := by
        have := congrArg List.length e2
        rw [List.length_append, List.length_cons] at this
        dsimp only at e4
        omega
      have N9' : News _ _ h ((H, listOf (ys.map strO.val).toArray k) :: (I, o) :: (Tl, listOf (List.replicate (1 + k) Value.none).toArray k) :: (Dl', listOf (qs.map strO.val).toArray 0) :: (D, lst (ps.map strO.val)) :: news) := news_front [_, _] N9
      clear N9
      dsimp only [kstB] at *
      k_extra "m:steps"
      have hHo' : ∀ p ∈ (I, o) :: (Tl, listOf (List.replicate (1 + k) Value.none).toArray k) :: (Dl', listOf (qs.map strO.val).toArray 0) :: (D, lst (ps.map strO.val)) :: news, p.1 ≠ H := List.forall_mem_cons.mpr ⟨Nat.ne_of_gt hHI, List.forall_mem_cons.mpr ⟨Nat.ne_of_gt hHT, List.forall_mem_cons.mpr ⟨Nat.ne_of_gt hHd, hHo⟩⟩⟩
      have hTo' : ∀ p ∈ (Dl', listOf (qs.map strO.val).toArray 0) :: (D, lst (ps.map strO.val)) :: news, p.1 ≠ Tl := List.forall_mem_cons.mpr ⟨Nat.ne_of_gt hTd, hTo⟩
      k_dflt (refine' Con.use2 ?k1 ?k2 ?k3 ?k4 ?k5 ?k6 (heappush_con strO (xs := ys) (x := x) (n := k) hHo' (fun _ _ => trivial) trivial (by omega)) ?k7 ?k8 ?_)
      k_extra "m:use"
      intro h5 tk5 F5 N5
      k_with "m:stop" => ((fail_if_success fail_if_success clear mk29); ((with_reducible show wpAny _ _ (call (Value.builtin "list.append") _) _ _ _)))
      k_extra "m:steps"
      k_dflt (refine append_none (k := 1 + k) F5 N5 (Upd.tail (Nat.ne_of_lt hHT) (Upd.tail (Nat.ne_of_gt hTI) (Upd.head hTo'))) (by unfold sizeLine; omega) ?_)
      intro h6 F6 N6
      k_extra "m:steps"
      exact it_end (hpush ys x, k + 1) F6 N6 (fun p hp => by
        rcases List.mem_cons.mp hp with rfl | hp
        · exact .tail _ (.head _)
        rcases List.mem_cons.mp hp with rfl | hp
        · exact .tail _ (.tail _ (.head _))
        rcases List.mem_cons.mp hp with rfl | hp
        · exact .head _
        · exact .tail _ (.tail _ (.tail _ hp))) (hoff _ _ _) (fun p hp => by rw [List.mem_singleton.mp hp]; k_mem) (List.forall_mem_nil _) (by k_extra "m:same") ⟨pre ++ [x], rest, rfl, by rw [e2, List.append_assoc]; rfl, by rw [List.foldl_append, ← e3]; rfl, by rw [List.length_append, ← e4]; rfl⟩
  case done =>
    refine elim2 ?_
    intro ys k u h tk hP9 F9 N9
    refine gen_P fun R9 hR9 => ?_
    obtain ⟨pre, rest, e1, e2, e3, e4⟩ := hP9
    refine of_P hR9 ?_
    clear hR9 R9
    cases rest with
    | cons x rest => cases e1
    | nil =>
      rw [List.append_nil] at e2
      dsimp only at e3 e4
      subst e2
      refine next _ _ _ k k F9 (fun p hp => N9 p ?_) (fun z hz => ?_)
      · rw [e3, e4]
        rcases List.mem_cons.mp hp with rfl | hp
        · rw [e4]; exact .head _
        rcases List.mem_cons.mp hp with rfl | hp
        · rw [e4]; exact .tail _ (.head _)
        · exact .tail _ (.tail _ (.tail _ hp))
      · have hc : [Str.ofString "path"].contains z = false := by simpa using hz
        show (if [Str.ofString "path"].contains z then u z else m z) = m z
        rw [hc]; rfl
end

end

-- text: Pop0
/-- a row of `told`: the tuple's address, the path, its module, the answer -/
structure PRow where
  T : Addr
  p : Str × Tok
  md : Str × Tok
  a : Bool
  ta : Tok
noncomputable def PRow.obj (r : PRow) : Obj := { cls := .type "tuple", data := .seq #[.str r.p.1 r.p.2, .str r.md.1 r.md.2, .int (if r.a = true then 1 else 0) r.ta, .bool true] }
noncomputable def PRow.ent (r : PRow) : Addr × Obj := (r.T, r.obj)
noncomputable def PRow.plain (r : PRow) : Str × Str × Bool := (r.p.1, r.md.1, r.a)
/-- heappop's heap -/
noncomputable def hpop (ys : List (Str × Tok)) : List (Str × Tok) := if ys.dropLast.isEmpty then [] else sup strO.lt (ys.dropLast.set 0 (ys.getLastD default)) 0
noncomputable abbrev Cache := List (Str × Bool)
noncomputable def Cache.at (C : Cache) (md : Str) : Option Bool := (C.find? fun e => e.1 = md).map (·.2)
/-- what `names` answers, and the cache behind it -/
noncomputable def ask (ans : Str → Str → Bool) (C : Cache) (p md : Str) : Bool × Cache := match C.at md with
  | some b => (b, C)
  | none => (ans p md, C ++ [(md, ans p md)])
/-- the rows told by n pops -/
noncomputable def popRows (ans : Str → Str → Bool) (kf : Str → Str) : Nat → List (Str × Tok) → Cache → List (Str × Str × Bool)
  | 0, _, _ => []
  | n + 1, ys, C => ((ys.headD default).1, kf (ys.headD default).1, (ask ans C (ys.headD default).1 (kf (ys.headD default).1)).1) :: popRows ans kf n (hpop ys) (ask ans C (ys.headD default).1 (kf (ys.headD default).1)).2
/-- the cache as the dict bears it -/
noncomputable def kvOf (e : Str × Bool × Tok) : Str × Value := (e.1, .int (if e.2.1 = true then 1 else 0) e.2.2)
noncomputable def kbOf (e : Str × Bool × Tok) : Str × Bool := (e.1, e.2.1)
theorem cache_at (kts : List (Str × Bool × Tok)) (md : Str) : (∃ e ∈ kts, e.1 = md ∧ valueAt (kts.map kvOf) md = some (.int (if e.2.1 = true then 1 else 0) e.2.2) ∧ Cache.at (kts.map kbOf) md = some e.2.1) ∨ (valueAt (kts.map kvOf) md = none ∧ Cache.at (kts.map kbOf) md = none) := by
  unfold valueAt Cache.at
  induction kts with
  | nil => exact .inr ⟨rfl, rfl⟩
  | cons e kts ih =>
    by_cases h : e.1 = md
    · refine .inl ⟨e, .head _, h, ?_, ?_⟩
      · simp [List.map_cons, kvOf, h]
      · simp [List.map_cons, kbOf, h]
    · rcases ih with ⟨e', he', h1, h2, h3⟩ | ⟨h2, h3⟩
      · refine .inl ⟨e', .tail _ he', h1, ?_, ?_⟩
        · rw [List.map_cons, List.find?_cons_of_neg (by rw [decide_eq_true_iff]; exact h)]; exact h2
        · rw [List.map_cons, List.find?_cons_of_neg (by rw [decide_eq_true_iff]; exact h)]; exact h3
      · refine .inr ⟨?_, ?_⟩
        · rw [List.map_cons, List.find?_cons_of_neg (by rw [decide_eq_true_iff]; exact h)]; exact h2
        · rw [List.map_cons, List.find?_cons_of_neg (by rw [decide_eq_true_iff]; exact h)]; exact h3
theorem stored_new {kts : List (Str × Bool × Tok)} {md : Str} {b : Bool} {t : Tok} (h : valueAt (kts.map kvOf) md = none) : stored (kts.map kvOf) md (.int (if b = true then 1 else 0) t) = (kts ++ [(md, b, t)]).map kvOf := by
  unfold stored
  rw [if_neg, List.map_append]
  · rfl
  · unfold valueAt at h
    rw [Option.map_eq_none_iff, List.find?_eq_none] at h
    intro h'
    obtain ⟨e, he, h2⟩ := List.any_eq_true.mp h'
    exact h e he h2
/-- the heap and the cache behind n pops -/
noncomputable def popHeap : Nat → List (Str × Tok) → List (Str × Tok)
  | 0, ys => ys
  | n + 1, ys => popHeap n (hpop ys)
noncomputable def popCache (ans : Str → Str → Bool) (kf : Str → Str) : Nat → List (Str × Tok) → Cache → Cache
  | 0, _, C => C
  | n + 1, ys, C => popCache ans kf n (hpop ys) (ask ans C (ys.headD default).1 (kf (ys.headD default).1)).2
theorem popHeap_snoc : ∀ (n : Nat) (ys : List (Str × Tok)), popHeap (n + 1) ys = hpop (popHeap n ys)
  | 0, _ => rfl
  | n + 1, ys => popHeap_snoc n (hpop ys)
theorem popCache_snoc (ans : Str → Str → Bool) (kf : Str → Str) : ∀ (n : Nat) (ys : List (Str × Tok)) (C : Cache), popCache ans kf (n + 1) ys C = (ask ans (popCache ans kf n ys C) ((popHeap n ys).headD default).1 (kf ((popHeap n ys).headD default).1)).2
  | 0, _, _ => rfl
  | n + 1, ys, C => popCache_snoc ans kf n (hpop ys) _
theorem popRows_snoc (ans : Str → Str → Bool) (kf : Str → Str) : ∀ (n : Nat) (ys : List (Str × Tok)) (C : Cache), popRows ans kf (n + 1) ys C = popRows ans kf n ys C ++ [(((popHeap n ys).headD default).1, kf ((popHeap n ys).headD default).1, (ask ans (popCache ans kf n ys C) ((popHeap n ys).headD default).1 (kf ((popHeap n ys).headD default).1)).1)]
  | 0, _, _ => rfl
  | n + 1, ys, C => by
    have h := popRows_snoc ans kf n (hpop ys) (ask ans C (ys.headD default).1 (kf (ys.headD default).1)).2
    show _ :: popRows ans kf (n + 1) (hpop ys) _ = _
    rw [h]
    rfl

-- text: ForD
section
variable {prog : Program} {w : World} {A : Around} {E : Value → Shared → Prop} {s : Shared} {env : Env} {h₀ : Heap} {target : PySem.Expr} {body : List Stmt} {Q : Flow → Shared → Prop}
theorem for_rangeD {σ : Type} {r : Addr} {n : Nat} {t u v : Tok} {m₀ : Str → Option Value} {x : Str} {px : Pos} (Ld : σ → Led) (stored : List Str) (P : Nat → σ → Prop) (hh : A.handled = none) (c : σ) (F : Fr h₀ env.locals s.heap m₀) (N : News h₀ env.locals s.heap (Ld c)) (hr : IsRange s.heap r 0 (n : Int) 1 t u v) (hn : n < 1000) (hP : P 0 c) (hE : PassesOwn (model prog w) A env E)
    (turn : ∀ (I : Addr) (g : Heap), (∀ p ∈ Ld c, p.1 < I) → ∀ (i : Nat) (c : σ) (u : Str → Option Value) (t : Tok) (h : Heap) (tk : Nat) (d : Drawn) (o : Obj), i < n → P i c → (∀ p ∈ Ld c, p.1 ≠ I) → Fr h₀ env.locals h (fun z => if stored.contains z then u z else m₀ z) → News h₀ env.locals h ((I, o) :: Ld c) →
      wpAny (model prog w) A (assign (.Name x px) env (.int (i : Nat) t)) (fun _ s₂ => wpAny (model prog w) A (execs body env) (DPost h₀ env.locals { s with heap := g } I o Ld (fun _ => []) stored m₀ (P (i + 1)) Q) E s₂) E { s with heap := h, toks := tk, drawn := d })
    (done : ∀ (c : σ) (u : Str → Option Value) (h : Heap) (tk : Nat) (d : Drawn), P n c → Fr h₀ env.locals h (fun z => if stored.contains z then u z else m₀ z) → News h₀ env.locals h (Ld c) → Q .next { s with heap := h, toks := tk, drawn := d }) :
    wpAny (model prog w) A (pyIter (.ref r)) (fun it s₂ => codeAny (model prog w) A (.forLoop (.Name x px) it body [] env) (fun r s' => match r with | .ok f => Q f s' | .error e => cameBackBy (model prog w) A env E e s') s₂) E s := by
  refine wpAny_pyIter_range hr (range_small hn) ?_
  rw [range_size1]
  have up : ∀ b o, s.heap.get? b = some o → (s.heap.push { cls := .type "range_iterator", data := .fields #[rawInt 0, rawInt (n : Int), rawInt 1] }).get? b = some o := fun b o e => Heap.get?_push_of_some _ e
  have hlt : ∀ p ∈ Ld c, p.1 < s.heap.objs.size := fun p hp => Heap.lt_size (N p hp).1
  exact range_loopD (s := { s with heap := s.heap.push { cls := .type "range_iterator", data := .fields #[rawInt 0, rawInt (n : Int), rawInt 1] } }) (I := s.heap.objs.size) (n := n) (m₀ := m₀) Ld (fun _ => []) stored P hh (next_is_new F) (Nat.ne_of_lt F.ns.lt) (fun v => rfl)
    (fun i c u t h tk d o hi hp hoff F N => turn _ _ hlt i c u t h tk d o hi hp hoff F N) (fun c u h tk d hp F N => done c u h tk d hp F N) hE (Heap.get?_push_size _ rfl) c m₀ (List.forall_mem_nil _) (fun _ _ _ => rfl) hP (F.keeps up) (N.grown up) (fun p hp => Nat.ne_of_lt (hlt p hp))
end

-- text: Ask
theorem ConD.use {w : World} {mean : ExcName → Option Value} {mg mb : Str → Option Value} {f : Addr} {dn un' : Nat} {news : Led} {args : List Value} {Ret : Value → Led → Prop}
    {dp un : Nat} {gd : Option (List Code)} {cn : Str} {cs : Scope} {a : Addr} {ccd : Value} {cl : List (Str × Addr)} {outer : List Env} {A₀ : Around} {base h₀ : Heap} {L : Addr} {m : Str → Option Value} {s : Shared} {Q E : Value → Shared → Prop}
    (B : Below A₀ base outer h₀) (F : Fr h₀ L s.heap m) (X : (hd.heap_1 w.params).In h₀) (N : News h₀ L s.heap news) (T : Top q0 (looseW q0 loose0) mean mg mb h₀) (hk : cs.kind = .function)
    (C : ConD w mean mg mb f dn un' news args Ret) (hd : dp + dn < recursionLimit) (hu : un + un' < cLine)
    (ret : ∀ r news' h' tk' d', Fr h₀ L h' m → News h₀ L h' news' → Ret r news' → Q r { s with heap := h', toks := tk', drawn := d' }) :
    wpAny (model PySem.Challenge.rw_nq0173_01.row.prog w) (ktrTop dp un gd cn cs L a ccd cl outer) (call (.ref f) args) Q E s := C _ _ _ _ _ _ _ _ _ _ _ _ _ _ _ _ _ B F X N T hk hd hu ret
theorem names_ask {w : World} {mean : ExcName → Option Value} {mg mb : Str → Option Value} {rest : Led} {x dx S D G : Addr} {oS oG : Obj} {mods es : List (Str × Tok)} {n : Nat} {t1 t2 t3 tf tm : Tok} {kts : List (Str × Bool × Tok)} {f md : Str}
    (hS : SetO PySem.Challenge.rw_nq0173_01.row.prog w oS mods) (hG : Obj.IsDictOf (PySem.strKind PySem.Challenge.rw_nq0173_01.row.prog w) oG (kts.map kvOf)) (hGs : (G == sysModules) = false) (hmods : mods.length < 1000) (hes : es.length < 1000) (hkv : kts.length < 1000) (hml : ∀ p ∈ mods, p.1.length < 1000) (hel : ∀ p ∈ es, p.1.length < 1000) (hf : f.length < 1000) (hm : md.length < 1000)
    (off : ∀ p ∈ (D, listOf (es.map strO.val).toArray n) :: (S, oS) :: (x, instObj 100 dx) :: (dx, igD w t1 t2 t3 S D G) :: rest, p.1 ≠ G) :
    ConD w mean mg mb 97 5 30 ((G, oG) :: (D, listOf (es.map strO.val).toArray n) :: (S, oS) :: (x, instObj 100 dx) :: (dx, igD w t1 t2 t3 S D G) :: rest) [.ref x, .str f tf, .str md tm] (fun r news' => ∃ (b : Bool) (t : Tok) (oG' : Obj) (kts' : List (Str × Bool × Tok)), r = .int (if b = true then 1 else 0) t ∧ news' = (G, oG') :: (D, listOf (es.map strO.val).toArray n) :: (S, oS) :: (x, instObj 100 dx) :: (dx, igD w t1 t2 t3 S D G) :: rest ∧
      Obj.IsDictOf (PySem.strKind PySem.Challenge.rw_nq0173_01.row.prog w) oG' (kts'.map kvOf) ∧ ask (nameAns mods es) (kts.map kbOf) f md = (b, kts'.map kbOf) ∧ kts'.length ≤ kts.length + 1) := by
  intro dp un gd cn cs a ccd cl outer A₀ base h₀ L m s Q E B F X N T hk hd hu ret
  refine ConD.use B F X N T hk (names_con hS hG hGs hmods hes (by rw [List.length_map]; exact hkv) hml hel hf hm off) hd hu fun r news' h' tk' d' F' N' hr => ret r news' h' tk' d' F' N' ?_
  rcases cache_at kts md with ⟨e, he, h1, h2, h3⟩ | ⟨h2, h3⟩
  · rcases hr with ⟨v, hv, rfl, rfl⟩ | ⟨hv, _⟩
    · rw [h2] at hv
      cases hv
      exact ⟨e.2.1, e.2.2, oG, kts, rfl, rfl, hG, by unfold ask; rw [h3], Nat.le_succ _⟩
    · rw [h2] at hv; cases hv
  · rcases hr with ⟨v, hv, _⟩ | ⟨hv, oG', t, t', rfl, rfl, hd⟩
    · rw [h2] at hv; cases hv
    · rw [stored_new h2] at hd
      exact ⟨nameAns mods es f md, t, oG', kts ++ [(md, nameAns mods es f md, t')], rfl, rfl, hd, by unfold ask; rw [h3, List.map_append]; rfl, by rw [List.length_append]; exact Nat.le_refl _⟩
theorem news_swap2 {h₀ h : Heap} {L : Addr} (a b : Led) {c : Led} (N : News h₀ L h (a ++ (b ++ c))) : News h₀ L h (b ++ (a ++ c)) := fun p hp => N p (by
  simp only [List.mem_append] at hp ⊢
  rcases hp with h | h | h
  · exact .inr (.inl h)
  · exact .inl h
  · exact .inr (.inr h))

-- text: Law11
section
open PyProof.Rows.LCg (NsObj lst)
structure PopSt where
  ys : List (Str × Tok)
  nh : Nat
  rows : List PRow
  nt : Nat
  oG : Obj
  kts : List (Str × Bool × Tok)
  oc : Obj
  R : Led
noncomputable def toldOf (a0 : Nat) (rows : List PRow) : List Value := List.replicate a0 Value.none ++ rows.map (fun r => .ref r.T)
theorem pop_split {ys : List (Str × Tok)} (h : 0 < ys.length) : ys.dropLast ++ [ys.getLastD default] = ys := by
  rcases List.eq_nil_or_concat ys with rfl | ⟨a, b, rfl⟩
  · cases h
  · simp
theorem head_get {ys : List (Str × Tok)} (h : 0 < ys.length) : ys[0]! = ys.headD default := by
  cases ys with
  | nil => cases h
  | cons a b => rfl
theorem nd4 {a b c d : Addr} (h : [a, b, c, d].Nodup) : a ≠ b ∧ a ≠ c ∧ a ≠ d ∧ b ≠ c ∧ b ≠ d ∧ c ≠ d := by
  simp only [List.nodup_cons, List.mem_cons, List.mem_singleton, not_or, List.not_mem_nil] at h
  exact ⟨h.1.1, h.1.2.1, h.1.2.2.1, h.2.1.1, h.2.1.2.1, h.2.2.1.1⟩
theorem notin4 {p a b c d : Addr} (h : p ∉ [a, b, c, d]) : p ≠ a ∧ p ≠ b ∧ p ≠ c ∧ p ≠ d := by
  simp only [List.mem_cons, not_or] at h
  exact ⟨h.1, h.2.1, h.2.2.1, h.2.2.2.1⟩
noncomputable def strP (P : Str × Tok → Prop) : Ordr (Str × Tok) := { val := strO.val, ok := fun _ y => P y, lt := strO.lt, cmp := fun N _ _ hu h => strO.cmp N trivial trivial hu h, mono := fun h _ => h }
theorem hpop_length (ys : List (Str × Tok)) : (hpop ys).length = ys.length - 1 := by
  unfold hpop
  split
  · rename_i h
    rw [List.isEmpty_iff] at h
    have := congrArg List.length h
    rw [List.length_dropLast] at this
    exact this.symm
  · rw [sup_length, List.length_set, List.length_dropLast]
theorem hpop_sub {ys : List (Str × Tok)} (h0 : 0 < ys.length) : ∀ p ∈ hpop ys, p ∈ ys := by
  unfold hpop
  split
  · exact List.forall_mem_nil _
  · rename_i h
    have hlen : 0 < (ys.dropLast.set 0 (ys.getLastD default)).length := by
      rw [List.length_set]
      rcases Nat.eq_zero_or_pos ys.dropLast.length with h1 | h1
      · exact absurd (List.isEmpty_iff.mpr (List.length_eq_zero_iff.mp h1)) h
      · exact h1
    refine sup_ok (O := strP (· ∈ ys)) (rest := []) (fun y hy => ?_) hlen
    rcases List.mem_or_eq_of_mem_set hy with h | h
    · exact List.dropLast_subset _ h
    · show y ∈ ys
      have hm : ys.getLastD default ∈ ys.dropLast ++ [ys.getLastD default] := List.mem_append.mpr (.inr (.head _))
      rw [pop_split h0] at hm
      rw [h]; exact hm
theorem headD_mem {ys : List (Str × Tok)} (h : 0 < ys.length) : ys.headD default ∈ ys := by
  cases ys with
  | nil => cases h
  | cons a b => exact .head _
theorem told_push {a0 : Nat} {rows : List PRow} {r : PRow} : (toldOf a0 rows).toArray.push (.ref r.T) = (toldOf a0 (rows ++ [r])).toArray := by
  unfold toldOf
  simp
/-- the ledger in the loop -/
noncomputable def popLed (w : World) (L Tl H G Dd S x dx : Addr) (oS : Obj) (es : List (Str × Tok)) (a0 n : Nat) (t1 t2 t3 : Tok) (c : PopSt) : Led :=
  (Tl, listOf (toldOf a0 c.rows).toArray c.nt) :: (H, listOf (c.ys.map strO.val).toArray c.nh) :: (G, c.oG) :: (Dd, listOf (es.map strO.val).toArray n) :: (S, oS) :: (x, instObj 100 dx) :: (dx, igD w t1 t2 t3 S Dd G) :: (L + 1 + 1, c.oc) :: c.R
section
variable {w : World} {mean : ExcName → Option Value} {mg mb : Str → Option Value} {h₀ base : Heap} {L fa : Addr} {cd : Value} {m : Str → Option Value} {s : Shared} {Q : Flow → Shared → Prop} {E : Value → Shared → Prop}
/-- what holds ahead of the turn at place i -/
structure PopInv (w : World) (ans : Str → Str → Bool) (kf : Str → Str) (st : Led) (hs : List (Str × Tok)) (C0 : Cache) (bad : List Addr) (i : Nat) (c : PopSt) : Prop where
  ys : c.ys = popHeap i hs
  len : c.ys.length = hs.length - i
  sub : ∀ p ∈ c.ys, p ∈ hs
  rows : c.rows.map PRow.plain = popRows ans kf i hs C0
  rlen : c.rows.length = i
  oG : Obj.IsDictOf (PySem.strKind PySem.Challenge.rw_nq0173_01.row.prog w) c.oG (c.kts.map kvOf)
  kts : c.kts.map kbOf = popCache ans kf i hs C0
  klen : c.kts.length ≤ 1 + i
  oc : ∃ v, c.oc.data = .cell v
  rin : ∀ r ∈ c.rows, r.ent ∈ c.R
  sin : ∀ p ∈ st, p ∈ c.R
  off : ∀ p ∈ c.R, p.1 ∉ bad
theorem law11 (B : Below callerA base [] h₀) (F : Fr h₀ L s.heap m) (T : Top q0 (looseW q0 loose0) mean mg mb h₀) {st : Led} {D Tl H G Dd S x dx : Addr} {oS oG oc : Obj} {es mods ps hs : List (Str × Tok)} {a0 nt nh n np : Nat} {t1 t2 t3 t4 : Tok} {kf : Str → Str}
    (N : News h₀ L s.heap ((Tl, listOf (List.replicate a0 Value.none).toArray nt) :: (H, listOf (hs.map strO.val).toArray nh) :: (G, oG) :: (Dd, listOf (es.map strO.val).toArray n) :: (S, oS) :: (x, instObj 100 dx) :: (dx, igD w t1 t2 t3 S Dd G) :: (L + 1 + 1, oc) :: (D, listOf (ps.map strO.val).toArray np) :: st))
    (hoc : ∃ v, oc.data = .cell v) (hfix : ∀ p ∈ [Dd, S, x, dx, D], p ∉ [Tl, H, G, L + 1 + 1]) (hst : ∀ p ∈ st, p.1 ∉ [Tl, H, G, L + 1 + 1]) (hnd : [Tl, H, G, L + 1 + 1].Nodup)
    (hS : SetO PySem.Challenge.rw_nq0173_01.row.prog w oS mods) (hG : Obj.IsDictOf (PySem.strKind PySem.Challenge.rw_nq0173_01.row.prog w) oG [(Str.ofString "<string>", .int 1 t4)]) (hGs : (G == sysModules) = false) (hmods : mods.length < 1000) (hes : es.length < 1000) (hml : ∀ p ∈ mods, p.1.length < 1000) (hel : ∀ p ∈ es, p.1.length < 1000)
    (hhl : hs.length = ps.length) (hpl : ps.length < 100) (hps : ∀ p ∈ hs, p.1.length < 1000 ∧ (kf p.1).length < 1000) (ha0 : a0 < 100)
    (hkey : ∀ x ∈ hs, ∀ nw, Con w mean mg mb 111 4 32 nw [strO.val x] (fun r nw' => (∃ t, r = .str (kf x.1) t) ∧ nw' = nw))
    (mP : m (Str.ofString "paths") = some (.ref D)) (mH : m (Str.ofString "heap") = some (.ref H)) (mT : m (Str.ofString "told") = some (.ref Tl)) (mR : m (Str.ofString "reader") = some (.ref x)) (hE : PassesOwn (model PySem.Challenge.rw_nq0173_01.row.prog w) (callerA.deeper (lawE L fa cd)) (lawE L fa cd) E)
    (next : ∀ (h' : Heap) (tk' : Nat) (d' : Drawn) (m' : Str → Option Value) (c : PopSt), Fr h₀ L h' m' → PopInv w (nameAns mods es) kf ((D, listOf (ps.map strO.val).toArray np) :: st) hs [(Str.ofString "<string>", true)] [Tl, H, G, L + 1 + 1] ps.length c →
      News h₀ L h' (popLed w L Tl H G Dd S x dx oS es a0 n t1 t2 t3 c) →
      (∀ z, z ≠ Str.ofString "path" → z ≠ Str.ofString "place" → z ≠ Str.ofString "answer" → m' z = m z) → lawWp w L fa cd 12 Q E { s with heap := h', toks := tk', drawn := d' }) : (hd.heap_1 w.params).In h₀ → lawWp w L fa cd 11 Q E s := by
  have mk30 : True := .intro
  unfold lawWp at next ⊢
  k_fill
  intro X
  k_with "m:own" => ((fail_if_success fail_if_success clear mk30); (((with_reducible show wpAny _ _ (eval (PySem.Expr.Name (Str.ofString "told") _) (envOfC _ _ _ _ _)) _ _ _); k_dflt (refine' nameX_L ?F ?v ?_ ?a ?b; (case F => k_asm); (case v => exact mT); (case a => rfl); (case b => rfl); k_whole))))
  k_with "m:own" => ((fail_if_success fail_if_success clear mk30); (((with_reducible show wpAny _ _ (eval (PySem.Expr.Name (Str.ofString "heap") _) (envOfC _ _ _ _ _)) _ _ _); k_dflt (refine' nameX_L ?F ?v ?_ ?a ?b; (case F => k_asm); (case v => exact mH); (case a => rfl); (case b => rfl); k_whole))))
  k_with "m:own" => ((fail_if_success fail_if_success clear mk30); (((with_reducible show wpAny _ _ (eval (PySem.Expr.Name (Str.ofString "reader") _) (envOfC _ _ _ _ _)) _ _ _); k_dflt (refine' nameX_L ?F ?v ?_ ?a ?b; (case F => k_asm); (case v => exact mR); (case a => rfl); (case b => rfl); k_whole))))
  k_with "m:own" => ((fail_if_success fail_if_success clear mk30); (((with_reducible show wpAny _ _ (eval (PySem.Expr.Name (Str.ofString "paths") _) (envOfC _ _ _ _ _)) _ _ _); k_dflt (refine' nameX_L ?F ?v ?_ ?a ?b; (case F => k_asm); (case v => exact mP); (case a => rfl); (case b => rfl); k_whole))))
  k_with "m:stop" => ((fail_if_success fail_if_success clear mk30); ((with_reducible show wpAny _ _ (call (Value.ref _) _) _ _ _)))
  k_extra "m:steps"
  k_dflt (refine wpAny_For ?_)
  k_with "m:stop" => ((fail_if_success fail_if_success clear mk30); ((with_reducible show wpAny _ _ (pyIter (Value.ref _)) _ _ _)))
  k_extra "m:steps"
  (rename Fr _ _ _ _ => Fn)
  (rename News _ _ _ _ => Nn)
  (rename IsRange _ _ _ _ _ _ _ _ => hr9)
  have eL : (Tl, listOf (List.replicate a0 Value.none).toArray nt) :: (H, listOf (hs.map strO.val).toArray nh) :: (G, oG) :: (Dd, listOf (es.map strO.val).toArray n) :: (S, oS) :: (x, instObj 100 dx) :: (dx, igD w t1 t2 t3 S Dd G) :: (L + 1 + 1, oc) :: (D, listOf (ps.map strO.val).toArray np) :: st = popLed w L Tl H G Dd S x dx oS es a0 n t1 t2 t3 ⟨hs, nh, [], nt, oG, [(Str.ofString "<string>", true, t4)], oc, (D, listOf (ps.map strO.val).toArray np) :: st⟩ := by
    simp only [popLed, toldOf, List.map_nil, List.append_nil]
  rw [eL] at Nn
  k_dflt (refine for_rangeD (n := ps.length) (popLed w L Tl H G Dd S x dx oS es a0 n t1 t2 t3) [Str.ofString "place", Str.ofString "path", Str.ofString "answer"] (PopInv w (nameAns mods es) kf ((D, listOf (ps.map strO.val).toArray np) :: st) hs [(Str.ofString "<string>", true)] [Tl, H, G, L + 1 + 1]) rfl _ Fn Nn hr9 (by omega) ?start hE ?turn ?done)
  case start => exact ⟨rfl, rfl, fun _ h => h, rfl, rfl, hG, rfl, Nat.le_refl _, hoc, List.forall_mem_nil _, fun _ h => h, List.forall_mem_cons.mpr ⟨hfix D (by simp), hst⟩⟩
  case done =>
    intro c u h tk d hP F9 N9
    exact next _ _ _ _ c F9 hP N9 (fun z h1 h2 h3 => by
      have hc : [Str.ofString "place", Str.ofString "path", Str.ofString "answer"].contains z = false := by simp [h1, h2, h3]
      show (if [Str.ofString "place", Str.ofString "path", Str.ofString "answer"].contains z then u z else m z) = m z
      rw [hc]; rfl)
  case turn =>
    clear Fn Nn hr9 eL
    rintro I g9 hI i ⟨ys, nh, rows, nt, oG, kts, oc, R⟩ u t h tk d o hi hP hoff F9 N9
    refine gen_P fun R9 hR9 => ?_
    have hyl : ys.length = hs.length - i := hP.len
    have h0 : 0 < ys.length := by omega
    have hIb : I ∉ [Tl, H, G, L + 1 + 1] := by
      intro hm
      have : ∀ a ∈ [Tl, H, G, L + 1 + 1], @LT.lt Nat _ a I := List.forall_mem_cons.mpr ⟨hI _ (.head _), List.forall_mem_cons.mpr ⟨hI _ (.tail _ (.head _)), List.forall_mem_cons.mpr ⟨hI _ (.tail _ (.tail _ (.head _))), List.forall_mem_cons.mpr ⟨hI _ (.tail _ (.tail _ (.tail _ (.tail _ (.tail _ (.tail _ (.tail _ (.head _)))))))), List.forall_mem_nil _⟩⟩⟩⟩
      exact Nat.lt_irrefl _ (this I hm)
    obtain ⟨iT, iH, iG, iC⟩ := notin4 hIb
    obtain ⟨nTH, nTG, nTC, nHG, nHC, nGC⟩ := nd4 hnd
    obtain ⟨aT, aH, aG, aC⟩ := notin4 (hfix Dd (by simp))
    obtain ⟨bT, bH, bG, bC⟩ := notin4 (hfix S (by simp))
    obtain ⟨xT, xH, xG, xC⟩ := notin4 (hfix x (by simp))
    obtain ⟨dT, dH, dG, dC⟩ := notin4 (hfix dx (by simp))
    refine of_P hR9 (gen_body fun R8 hR8 => ?_)
    clear hR9 R9
    k_with "m:own" => ((fail_if_success fail_if_success clear mk30); ((refine of_Q hR8 ?_; (try dsimp only))))
    have offH : ∀ oG oc tl, ∀ p ∈ (I, o) :: (Tl, tl) :: (G, oG) :: (Dd, listOf (es.map strO.val).toArray n) :: (S, oS) :: (x, instObj 100 dx) :: (dx, igD w t1 t2 t3 S Dd G) :: (L + 1 + 1, oc) :: R, p.1 ≠ H := fun oG oc tl => List.forall_mem_cons.mpr ⟨iH, List.forall_mem_cons.mpr ⟨nTH, List.forall_mem_cons.mpr ⟨nHG.symm, List.forall_mem_cons.mpr ⟨aH, List.forall_mem_cons.mpr ⟨bH, List.forall_mem_cons.mpr ⟨xH, List.forall_mem_cons.mpr ⟨dH, List.forall_mem_cons.mpr ⟨nHC.symm, fun p hp => (notin4 (hP.off p hp)).2.1⟩⟩⟩⟩⟩⟩⟩⟩
    have C1 := heappop_con (w := w) (mean := mean) (mg := mg) (mb := mb) strO (xs := ys.dropLast) (x := ys.getLastD default) (n := nh) (offH oG oc (listOf (toldOf a0 rows).toArray nt)) (fun _ _ => trivial) trivial (by rw [List.length_dropLast]; omega)
    rw [pop_split h0, head_get h0] at C1
    have hhd : ys.headD default ∈ hs := hP.sub _ (headD_mem h0)
    unfold popLed at N9
    dsimp only at N9
    have N8 := news_front [_, _] N9
    clear N9
    k_extra "m:steps"
    k_dflt (refine' Con.use2 ?k1 ?k2 ?k3 ?k4 ?k5 ?k6 C1 ?k7 ?k8 ?_)
    k_extra "m:use"
    intro h5 tk5 F5 N5
    clear C1
    k_extra "m:steps"
    (rename Fr _ _ _ _ => Fn)
    (rename News _ _ _ _ => Nn)
    k_dflt (refine' Con.useT ?k1 ?k2 ?k3 ?k4 ?k5 ?k6 (hkey (ys.headD default) hhd _) ?k7 ?k8 ?_)
    k_extra "m:use"
    intro tm h6 tk6 F6 N6
    clear Fn Nn
    obtain ⟨v0, hoc0⟩ := hP.oc
    k_with "m:stop" => ((fail_if_success fail_if_success clear mk30); ((with_reducible show wpAny _ _ (storeName _ (Str.ofString "module") _) _ _ _)))
    k_extra "m:steps"
    k_dflt (refine storeX_C F6 N6 (c := L + 1 + 1) rfl (UpdF.tail nHC (UpdF.tail iC (UpdF.tail nTC (UpdF.tail nGC (UpdF.tail aC (UpdF.tail bC (UpdF.tail xC (UpdF.tail dC (UpdF.head fun p hp => (notin4 (hP.off p hp)).2.2.2))))))))) hoc0 ?_ rfl rfl)
    intro h7 oc' F7 N7 hoc'
    clear F6 N6
    k_extra "m:steps"
    have N8 := news_swap2 [_, _, _] [_, _, _, _, _] N7
    clear N7
    have offG : ∀ hp tl oc, ∀ p ∈ (Dd, listOf (es.map strO.val).toArray n) :: (S, oS) :: (x, instObj 100 dx) :: (dx, igD w t1 t2 t3 S Dd G) :: (H, hp) :: (I, o) :: (Tl, tl) :: (L + 1 + 1, oc) :: R, p.1 ≠ G := fun hp tl oc => List.forall_mem_cons.mpr ⟨aG, List.forall_mem_cons.mpr ⟨bG, List.forall_mem_cons.mpr ⟨xG, List.forall_mem_cons.mpr ⟨dG, List.forall_mem_cons.mpr ⟨nHG, List.forall_mem_cons.mpr ⟨iG, List.forall_mem_cons.mpr ⟨nTG, List.forall_mem_cons.mpr ⟨nGC.symm, fun p hp => (notin4 (hP.off p hp)).2.2.1⟩⟩⟩⟩⟩⟩⟩⟩
    k_dflt (refine' ConD.use ?k1 ?k2 ?k3 ?k4 ?k5 ?k6 (names_ask (kts := kts) hS hP.oG hGs hmods hes (Nat.lt_of_le_of_lt hP.klen (by omega)) hml hel (hps _ hhd).1 (hps _ hhd).2 (offG _ _ _)) ?k7 ?k8 ?_)
    k_extra "m:use"
    intro r9 nw9 h9 tk9 d9 F9 N9 hG1
    refine gen_P fun R9 hR9 => ?_
    obtain ⟨b9, t9, oG9, kts9, rfl, rfl, hG9, hask9, hkl9⟩ := hG1
    refine of_P hR9 ?_
    clear hR9 R9
    clear F7 N8
    k_with "m:stop" => ((fail_if_success fail_if_success clear mk30); ((with_reducible show wpAny _ _ (call (Value.builtin "list.append") _) _ _ _)))
    k_extra "m:steps"
    (rename Fr _ _ _ _ => Fn)
    (rename News _ _ _ _ => Nn)
    (rename _ ∧ _ ∧ _ ∧ _ ∧ _ ∧ _ ∧ _ ∧ _ ∧ _ ∧ _ => lz)
    (rename Addr => T')
    have hTr : ∀ p ∈ (L + 1 + 1, oc') :: R, p.1 ≠ Tl := List.forall_mem_cons.mpr ⟨nTC.symm, fun p hp => (notin4 (hP.off p hp)).1⟩
    k_dflt (refine append_K Fn Nn (Upd.tail (Nat.ne_of_gt lz.2.2.2.2.2.2.2.1) (Upd.tail nTG.symm (Upd.tail aT (Upd.tail bT (Upd.tail xT (Upd.tail dT (Upd.tail nTH.symm (Upd.tail iT (Upd.head hTr))))))))) ?_ (by simp [toldOf, hP.rlen]; unfold sizeLine; omega))
    intro h10 F10 N10
    clear Fn Nn
    rw [told_push (r := ⟨T', ys.headD default, (kf (ys.headD default).1, tm), b9, t9⟩)] at N10
    k_extra "m:steps"
    have hheap : popHeap i hs = ys := hP.ys.symm
    have hcache : popCache (nameAns mods es) kf i hs [(Str.ofString "<string>", true)] = kts.map kbOf := hP.kts.symm
    have hTb : T' ∉ [Tl, H, G, L + 1 + 1] := by
      intro hm
      have : ∀ a ∈ [Tl, H, G, L + 1 + 1], @LT.lt Nat _ a T' := List.forall_mem_cons.mpr ⟨lz.2.2.2.2.2.2.2.1, List.forall_mem_cons.mpr ⟨lz.2.2.2.2.2.1, List.forall_mem_cons.mpr ⟨lz.1, List.forall_mem_cons.mpr ⟨lz.2.2.2.2.2.2.2.2.1, List.forall_mem_nil _⟩⟩⟩⟩
      exact Nat.lt_irrefl _ (this T' hm)
    refine d_end ⟨hpop ys, nh + 1, rows ++ [⟨T', ys.headD default, (kf (ys.headD default).1, tm), b9, t9⟩], nt + 1, oG9, kts9, oc', (T', PRow.obj ⟨T', ys.headD default, (kf (ys.headD default).1, tm), b9, t9⟩) :: R⟩ F10 N10 ?_ ?_ (List.forall_mem_nil _) (by k_extra "m:same") ?_
    · exact List.forall_mem_cons.mpr ⟨by k_mem, List.forall_mem_cons.mpr ⟨by k_mem, List.forall_mem_cons.mpr ⟨by k_mem, List.forall_mem_cons.mpr ⟨by k_mem, List.forall_mem_cons.mpr ⟨by k_mem, List.forall_mem_cons.mpr ⟨by k_mem, List.forall_mem_cons.mpr ⟨by k_mem, List.forall_mem_cons.mpr ⟨by k_mem, List.forall_mem_cons.mpr ⟨by k_mem, List.forall_mem_cons.mpr ⟨.head _, fun p hp => .tail _ (.tail _ (.tail _ (.tail _ (.tail _ (.tail _ (.tail _ (.tail _ (.tail _ (.tail _ hp)))))))))⟩⟩⟩⟩⟩⟩⟩⟩⟩⟩
    · have hRI : ∀ p ∈ R, p.1 ≠ I := fun p hp => hoff p (.tail _ (.tail _ (.tail _ (.tail _ (.tail _ (.tail _ (.tail _ (.tail _ hp))))))))
      exact List.forall_mem_cons.mpr ⟨iT.symm, List.forall_mem_cons.mpr ⟨iH.symm, List.forall_mem_cons.mpr ⟨iG.symm, List.forall_mem_cons.mpr ⟨hoff (Dd, _) (.tail _ (.tail _ (.tail _ (.head _)))), List.forall_mem_cons.mpr ⟨hoff (S, _) (.tail _ (.tail _ (.tail _ (.tail _ (.head _))))), List.forall_mem_cons.mpr ⟨hoff (x, _) (.tail _ (.tail _ (.tail _ (.tail _ (.tail _ (.head _)))))), List.forall_mem_cons.mpr ⟨hoff (dx, _) (.tail _ (.tail _ (.tail _ (.tail _ (.tail _ (.tail _ (.head _))))))), List.forall_mem_cons.mpr ⟨iC.symm, List.forall_mem_cons.mpr ⟨Nat.ne_of_gt lz.2.2.2.2.2.2.1, hRI⟩⟩⟩⟩⟩⟩⟩⟩⟩
    · refine ⟨?_, ?_, ?_, ?_, ?_, hG9, ?_, ?_, ⟨_, hoc'⟩, ?_, ?_, ?_⟩
      · show hpop ys = _
        rw [popHeap_snoc, hheap]
      · show (hpop ys).length = _
        rw [hpop_length, hyl]; omega
      · exact fun p hp => hP.sub p (hpop_sub h0 p hp)
      · show (rows ++ [_]).map PRow.plain = _
        rw [popRows_snoc, hheap, hcache, hask9, List.map_append, hP.rows]
        rfl
      · show (rows ++ [_]).length = _
        rw [List.length_append, hP.rlen]; rfl
      · show kts9.map kbOf = _
        rw [popCache_snoc, hheap, hcache, hask9]
      · show kts9.length ≤ _
        have := hP.klen
        dsimp only at this
        omega
      · intro r hr
        rcases List.mem_append.mp hr with h | h
        · exact .tail _ (hP.rin r h)
        · rw [List.mem_singleton.mp h]; exact .head _
      · exact fun p hp => .tail _ (hP.sin p hp)
      · exact List.forall_mem_cons.mpr ⟨hTb, hP.off⟩
end

end

-- text: Law12
section
open PyProof.Rows.LCg (NsObj lst)
section
variable {w : World} {mean : ExcName → Option Value} {mg mb : Str → Option Value} {h₀ base : Heap} {L fa : Addr} {cd : Value} {m : Str → Option Value} {s : Shared} {Q : Flow → Shared → Prop} {E : Value → Shared → Prop}
theorem law12 (B : Below callerA base [] h₀) (F : Fr h₀ L s.heap m) (T : Top q0 (looseW q0 loose0) mean mg mb h₀) {news : Led} (N : News h₀ L s.heap news) {c1 : Obj} {total : Int} {tt : Tok} (hc : (L + 1, c1) ∈ news) (d1 : c1.data = .cell (some (.int total tt)))
    (next : ∀ (h' : Heap) (tk' : Nat) (m' : Str → Option Value) (tw : Tok), Fr h₀ L h' m' → News h₀ L h' news → m' (Str.ofString "wish") = some (.int (((total.fmod 6).toNat + 1 : Nat) : Int) tw) → (∀ z, z ≠ Str.ofString "wish" → m' z = m z) → lawWp w L fa cd 13 Q E { s with heap := h', toks := tk' }) : (hd.heap_1 w.params).In h₀ → lawWp w L fa cd 12 Q E s := by
  have mk31 : True := .intro
  unfold lawWp at next ⊢
  k_fill
  intro X
  k_with "m:own" => ((fail_if_success fail_if_success clear mk31); (((with_reducible show wpAny _ _ (eval (PySem.Expr.Name (Str.ofString "total") _) (envOfC _ _ _ _ _)) _ _ _); k_dflt (refine' nameX_C ?N ?c hc d1 ?_ ?a ?b; (case a => rfl); (case b => rfl); (case N => k_asm); (case c => rfl); k_whole))))
  k_with "m:stop" => ((fail_if_success fail_if_success clear mk31); ((with_reducible show wpAny _ _ (storeName _ (Str.ofString "wish") _) _ _ _)))
  k_extra "m:steps"
  have ew : total.fmod 6 + 1 = (((total.fmod 6).toNat + 1 : Nat) : Int) := by
    have := Int.fmod_nonneg_of_pos total (show (0 : Int) < 6 by decide)
    lia
  rw [ew]
  k_with "m:stop" => ((fail_if_success fail_if_success clear mk31); ((with_reducible show wpAny _ _ (execs _ _) _ _ _)))
  k_dflt (refine storeX_L F N ?_ rfl rfl)
  intro h' F' N'
  exact next _ _ _ _ F' N' (if_pos rfl) (fun z hz => if_neg hz)
end

end

-- text: Law13
section
open PyProof.Rows.LCg (NsObj lst)
theorem ConK.use {w : World} {mean : ExcName → Option Value} {mg mb : Str → Option Value} {f : Addr} {dn un' : Nat} {news : Led} {args : List Value} {kw : List (Str × Value)} {Ret : Value → Led → Prop}
    {dp un : Nat} {gd : Option (List Code)} {cn : Str} {cs : Scope} {a : Addr} {ccd : Value} {cl : List (Str × Addr)} {outer : List Env} {A₀ : Around} {base h₀ : Heap} {L : Addr} {m : Str → Option Value} {s : Shared} {Q E : Value → Shared → Prop}
    (B : Below A₀ base outer h₀) (F : Fr h₀ L s.heap m) (X : (hd.heap_1 w.params).In h₀) (N : News h₀ L s.heap news) (T : Top q0 (looseW q0 loose0) mean mg mb h₀) (hk : cs.kind = .function)
    (C : ConK w mean mg mb f dn un' news args kw Ret) (hd : dp + dn < recursionLimit) (hu : un + un' < cLine)
    (ret : ∀ r news' h' tk', Fr h₀ L h' m → News h₀ L h' news' → Ret r news' → Q r { s with heap := h', toks := tk' }) :
    wpAny (model PySem.Challenge.rw_nq0173_01.row.prog w) (ktrTop dp un gd cn cs L a ccd cl outer) (call (.ref f) args kw) Q E s := C _ _ _ _ _ _ _ _ _ _ _ _ _ _ _ _ _ B F X N T hk hd hu ret
theorem ConN.use {w : World} {mean : ExcName → Option Value} {mg mb : Str → Option Value} {f : Addr} {dn un' : Nat} {news : Led} {args : List Value} {kw : List (Str × Value)} {Ret : Value → Led → Prop}
    {dp un : Nat} {gd : Option (List Code)} {cn : Str} {cs : Scope} {a : Addr} {ccd : Value} {cl : List (Str × Addr)} {A₀ : Around} {base h₀ : Heap} {L : Addr} {m : Str → Option Value} {s : Shared} {Q E : Value → Shared → Prop}
    (B : Below A₀ base [] h₀) (F : Fr h₀ L s.heap m) (X : (hd.heap_1 w.params).In h₀) (N : News h₀ L s.heap news) (T : Top q0 (looseW q0 loose0) mean mg mb h₀) (hk : cs.kind = .function)
    (C : ConN w mean mg mb f dn un' news args kw Ret) (hd : dp + dn < recursionLimit) (hu : un + un' < cLine)
    (ret : ∀ r news' h' tk', Fr h₀ L h' m → News h₀ L h' news' → Ret r news' → Q r { s with heap := h', toks := tk' }) :
    wpAny (model PySem.Challenge.rw_nq0173_01.row.prog w) (ktrTop dp un gd cn cs L a ccd cl []) (call (.ref f) args kw) Q E s := C _ _ _ _ _ _ _ _ _ _ _ _ _ _ _ _ B F X N T hk hd hu ret
section
variable {w : World} {mean : ExcName → Option Value} {mg mb : Str → Option Value} {h₀ base : Heap} {L fa : Addr} {cd : Value} {m : Str → Option Value} {s : Shared} {Q : Flow → Shared → Prop} {E : Value → Shared → Prop}
theorem law13 (B : Below callerA base [] h₀) (F : Fr h₀ L s.heap m) (T : Top q0 (looseW q0 loose0) mean mg mb h₀) {news : Led} {D Tl H : Addr} {ps hs : List (Str × Tok)} {np nh nt wish : Nat} {tw : Tok} {told : List Value} {SM LG : List Str}
    (N : News h₀ L s.heap ((Tl, listOf told.toArray nt) :: (H, listOf (hs.map strO.val).toArray nh) :: (D, listOf (ps.map strO.val).toArray np) :: news)) (hTl : ∀ p ∈ (H, listOf (hs.map strO.val).toArray nh) :: (D, listOf (ps.map strO.val).toArray np) :: news, p.1 ≠ Tl)
    (mP : m (Str.ofString "paths") = some (.ref D)) (mH : m (Str.ofString "heap") = some (.ref H)) (mT : m (Str.ofString "told") = some (.ref Tl)) (mW : m (Str.ofString "wish") = some (.int (wish : Nat) tw)) (hlen : told.length < 1000)
    (hns : ∀ nw, ConK w mean mg mb 187 9 70 ((D, listOf (ps.map strO.val).toArray np) :: nw) [.int (wish : Nat) tw, .ref D] [(Str.ofString "key", .ref 111)] (fun r news' => ∃ (D' : Addr) (zs : List (Str × Tok)) (c : Nat), r = .ref D' ∧ news' = (D', listOf (zs.map strO.val).toArray c) :: (D, listOf (ps.map strO.val).toArray np) :: nw ∧ AllLt D' ((D, listOf (ps.map strO.val).toArray np) :: nw) ∧ zs.map (·.1) = SM))
    (hnl : ∀ (J : Addr) nw, (∀ p ∈ (D, listOf (ps.map strO.val).toArray np) :: nw, p.1 ≠ J) → ConN w mean mg mb 193 9 70 ((J, lstIt D 0) :: (D, listOf (ps.map strO.val).toArray np) :: nw) [.int (wish : Nat) tw, .ref J] [(Str.ofString "key", .ref 111)] (fun r news' => ∃ (D' : Addr) (zs : List (Str × Tok)) (c : Nat), r = .ref D' ∧ news' = (D', listOf (zs.map strO.val).toArray c) :: (D, listOf (ps.map strO.val).toArray np) :: nw ∧ AllLt D' ((D, listOf (ps.map strO.val).toArray np) :: nw) ∧ zs.map (·.1) = LG))
    (next : ∀ (h' : Heap) (tk' : Nat) (T' D1 D2 : Addr) (zs1 zs2 : List (Str × Tok)) (k1 k2 : Nat), Fr h₀ L h' m → News h₀ L h' ((Tl, listOf (told ++ [Value.ref T']).toArray (nt + 1)) :: (T', { cls := .type "tuple", data := .seq #[.ref H, .ref D1, .ref D2] }) :: (D2, listOf (zs2.map strO.val).toArray k2) :: (D1, listOf (zs1.map strO.val).toArray k1) :: (H, listOf (hs.map strO.val).toArray nh) :: (D, listOf (ps.map strO.val).toArray np) :: news) →
      zs1.map (·.1) = SM → zs2.map (·.1) = LG → lawWp w L fa cd 14 Q E { s with heap := h', toks := tk' }) :
    (hd.heap_1 w.params).In h₀ → lawWp w L fa cd 13 Q E s := by
  have mk32 : True := .intro
  unfold lawWp at next ⊢
  k_fill
  intro X
  k_with "m:own" => ((fail_if_success fail_if_success clear mk32); (((with_reducible show wpAny _ _ (eval (PySem.Expr.Name _ _) (envOfC _ _ _ _ _)) _ _ _); k_dflt (refine' nameX_L ?F ?v ?_ ?a ?b; (case F => k_asm); (case v => with_reducible assumption); (case a => rfl); (case b => rfl); k_whole))))
  k_with "m:own" => ((fail_if_success fail_if_success clear mk32); (((with_reducible show wpAny _ _ (call (Value.builtin "iter") [Value.ref _]) _ _ _); k_dflt (refine' iter_list_led ?k1 ?k2 ?k3 ?_; (case k1 => k_asm); (case k2 => k_asm); (case k3 => k_mem); k_whole); intro I' h' F' N' lI'; (try k_sweep))))
  k_with "m:stop" => ((fail_if_success fail_if_success clear mk32); ((with_reducible show wpAny _ _ (call (Value.ref _) _ _) _ _ _)))
  k_extra "m:steps"
  have N1 := news_front [_, _] N
  clear N
  k_dflt (refine' ConK.use ?k1 ?k2 ?k3 ?k4 ?k5 ?k6 (hns _) ?k7 ?k8 ?_)
  k_extra "m:use"
  intro _ _ h5 tk5 F5 N5 hG25
  refine gen_P fun R9 hR9 => ?_
  obtain ⟨D1, zs1, k1, rfl, rfl, l1, e1⟩ := hG25
  refine of_P hR9 ?_
  clear hR9 R9
  clear F N1
  k_extra "m:steps"
  have N6 := news_swap (news_front [_, _] N')
  clear N'
  have hJ : ∀ p ∈ (D, listOf (ps.map strO.val).toArray np) :: (D1, listOf (zs1.map strO.val).toArray k1) :: ([(Tl, listOf told.toArray nt), (H, listOf (hs.map strO.val).toArray nh)] ++ news), p.1 ≠ I' := allLt_out ⟨lI'.2.1, lI'.1, lI'.2.2⟩
  k_dflt (refine' ConN.use ?k1 ?k2 ?k3 ?k4 ?k5 ?k6 (hnl _ _ hJ) ?k7 ?k8 ?_)
  k_extra "m:use"
  intro _ _ h7 tk7 F7 N7 hG26
  refine gen_P fun R9 hR9 => ?_
  obtain ⟨D2, zs2, k2, rfl, rfl, l2, e2⟩ := hG26
  refine of_P hR9 ?_
  clear hR9 R9
  clear F' N6
  k_with "m:stop" => ((fail_if_success fail_if_success clear mk32); ((with_reducible show wpAny _ _ (call (Value.builtin "list.append") _) _ _ _)))
  k_extra "m:steps"
  (rename Fr _ _ _ _ => Fn)
  (rename News _ _ _ _ => Nn)
  (rename _ ∧ _ ∧ _ ∧ _ => lz)
  (rename Addr => T')
  k_dflt (refine append_K Fn Nn (Upd.tail (Nat.ne_of_gt lz.2.2.2.1) (Upd.tail (Nat.ne_of_gt l2.2.2.1) (Upd.tail (hTl _ (.tail _ (.head _))) (Upd.tail (Nat.ne_of_gt l1.2.1) (Upd.head fun p hp => hTl p (by
    rcases List.mem_cons.mp hp with rfl | hp
    · exact .head _
    · exact .tail _ (.tail _ hp))))))) ?_ (by simp; unfold sizeLine; lia))
  intro h8 F8 N8
  clear Fn Nn
  k_with "m:stop" => ((fail_if_success fail_if_success clear mk32); ((with_reducible show wpAny _ _ (execs (Stmt.Assign _ _ _ :: _) _) _ _ _)))
  k_extra "m:steps"
  refine next _ _ T' D1 D2 zs1 zs2 k1 k2 F8 (fun p hp => N8 p ?_) e1 e2
  have et : (told ++ [Value.ref T']).toArray = told.toArray.push (.ref T') := by simp
  rw [et] at hp
  rcases List.mem_cons.mp hp with rfl | hp
  · exact .tail _ (.tail _ (.tail _ (.tail _ (.head _))))
  rcases List.mem_cons.mp hp with rfl | hp
  · exact .head _
  rcases List.mem_cons.mp hp with rfl | hp
  · exact .tail _ (.head _)
  rcases List.mem_cons.mp hp with rfl | hp
  · exact .tail _ (.tail _ (.tail _ (.head _)))
  rcases List.mem_cons.mp hp with rfl | hp
  · exact .tail _ (.tail _ (.tail _ (.tail _ (.tail _ (.head _)))))
  rcases List.mem_cons.mp hp with rfl | hp
  · exact .tail _ (.tail _ (.head _))
  · exact .tail _ (.tail _ (.tail _ (.tail _ (.tail _ (.tail _ hp)))))
end

end

-- text: Law14
section
open PyProof.Rows.LCg (NsObj lst)
section
variable {w : World} {mean : ExcName → Option Value} {mg mb : Str → Option Value} {h₀ base : Heap} {L fa : Addr} {cd : Value} {m : Str → Option Value} {s : Shared} {Q : Flow → Shared → Prop} {E : Value → Shared → Prop}
theorem law14 (B : Below callerA base [] h₀) (F : Fr h₀ L s.heap m) (T : Top q0 (looseW q0 loose0) mean mg mb h₀) {news : Led} {D : Addr} {ps : List (Str × Tok)} {np half : Nat} {tf : Tok}
    (N : News h₀ L s.heap ((D, listOf (ps.map strO.val).toArray np) :: news)) (mP : m (Str.ofString "paths") = some (.ref D)) (mh : m (Str.ofString "half") = some (.int (half : Nat) tf)) (hlen : ps.length < 100)
    (next : ∀ (h' : Heap) (tk' : Nat) (m' : Str → Option Value) (U : Addr), Fr h₀ L h' m' → News h₀ L h' ((U, lst (List.replicate (1 + (ps.drop half).length) Value.none)) :: (D, listOf (ps.map strO.val).toArray np) :: news) → AllLt U ((D, listOf (ps.map strO.val).toArray np) :: news) →
      m' (Str.ofString "due") = some (.ref U) → (∀ z, z ≠ Str.ofString "due" → m' z = m z) → lawWp w L fa cd 15 Q E { s with heap := h', toks := tk' }) :
    (hd.heap_1 w.params).In h₀ → lawWp w L fa cd 14 Q E s := by
  have mk33 : True := .intro
  unfold lawWp at next ⊢
  k_fill
  intro X
  k_with "m:own" => ((fail_if_success fail_if_success clear mk33); (((with_reducible show wpAny _ _ (eval (PySem.Expr.Name _ _) (envOfC _ _ _ _ _)) _ _ _); k_dflt (refine' nameX_L ?F ?v ?_ ?a ?b; (case F => k_asm); (case v => with_reducible assumption); (case a => rfl); (case b => rfl); k_whole))))
  k_with "m:stop" => ((fail_if_success fail_if_success clear mk33); ((with_reducible show wpAny _ _ (binaryOp _ (Value.ref _) (Value.ref _)) _ _ _)))
  k_extra "m:steps"
  k_dflt (refine cg_assign F (by with_unfolding_all rfl) (by with_unfolding_all rfl) (by decide) (by rfl) (by decide) (by rfl) (by rfl) ?_)
  k_extra "m:steps"
  (rename Fr _ _ _ _ => Fn)
  (rename News _ _ _ _ => Nn)
  dsimp only
  k_dflt (refine add_strs (l₁ := [(Str.ofString "", _)]) (l₂ := ps.drop half) Fn Nn (.tail _ (.head _)) (.head _) (by simp; unfold sizeLine; lia) ?_)
  clear Fn Nn
  intro D1 h4 F4 N4 l4
  generalize hqs : [(Str.ofString "", _)] ++ ps.drop half = qs at N4
  have hql : qs.length = 1 + (ps.drop half).length := by rw [← hqs, List.length_append]; rfl
  have hl : (ps.drop half).length ≤ ps.length := by rw [List.length_drop]; lia
  have N5 : News h₀ L h4 ((D1, listOf (qs.map strO.val).toArray 0) :: (D, listOf (ps.map strO.val).toArray np) :: news) := fun p hp => N4 p (by
    rcases List.mem_cons.mp hp with rfl | hp
    · exact .head _
    · exact .tail _ (.tail _ (.tail _ hp)))
  clear N4
  dsimp only
  k_dflt (refine' cg_list (vs := qs.map strO.val) (k := 0) ?k1 ?k2 ?k3 ?k4 ?k5 ?k6 ?k7 (fun i ys nw => ys = List.replicate i Value.none ∧ nw = (D1, listOf (qs.map strO.val).toArray 0) :: (D, listOf (ps.map strO.val).toArray np) :: news) ?kJ ?turn ?fin; (case k1 => exact rfl); (case k2 => k_asm); (case k3 => k_asm); (case k4 => k_mem); (case k5 => simp; unfold sizeLine; lia); (case k6 => exact rfl); (case k7 => exact rfl); (case kJ => exact ⟨rfl, rfl⟩))
  case turn =>
    refine two_turn ?_
    intro i hi I7 oI7 C7 oC7 D8 m7 h5 tk5 E5 hx7 hC7 F5 N6 off5
    rw [List.length_map] at hi
    refine tests_go ?_
    k_extra "m:steps"
    exact cg_end _ F5 N6 (fun p hp => hp) off5 (fun p hp => by rw [List.mem_singleton.mp hp]; k_mem) ⟨by rw [List.replicate_succ'], rfl⟩
  case fin =>
    refine two_fin ?_
    intro D7 g7 offD7 ltD7 h5 tk5 F5 N6
    rw [List.length_map, hql] at N6
    exact next _ _ _ D7 F5 (fun p hp => N6 p (by
      rcases List.mem_cons.mp hp with rfl | hp
      · exact .head _
      · exact .tail _ (.tail _ hp))) (allLt_of fun p hp => ltD7 p (.tail _ hp)) (if_pos rfl) (fun z hz => if_neg hz)
end

end

-- text: MinS
section
open PySem.Spec
theorem argBest_least (f : Nat → Str) : ∀ k, argBest (fun i j => sless (f i) (f j)) k ≤ k ∧ ∀ j, j ≤ k → sless (f j) (f (argBest (fun i j => sless (f i) (f j)) k)) = false
  | 0 => ⟨Nat.le_refl _, fun j hj => by
      have : j = 0 := by lia
      subst this; exact sless_irr _⟩
  | k + 1 => by
    obtain ⟨h1, h2⟩ := argBest_least f k
    simp only [argBest]
    by_cases hc : sless (f (k + 1)) (f (argBest (fun i j => sless (f i) (f j)) k)) = true
    · rw [if_pos hc]
      refine ⟨Nat.le_refl _, fun j hj => ?_⟩
      rcases Nat.lt_or_ge j (k + 1) with hlt | hge
      · have h3 := h2 j (by lia)
        cases h4 : sless (f j) (f (k + 1)) with
        | false => rfl
        | true => rw [sless_tr h4 hc] at h3; cases h3
      · have : j = k + 1 := by lia
        subst this; exact sless_irr _
    · rw [if_neg hc]
      refine ⟨by lia, fun j hj => ?_⟩
      rcases Nat.lt_or_ge j (k + 1) with hlt | hge
      · exact h2 j (by lia)
      · have : j = k + 1 := by lia
        subst this
        exact Bool.eq_false_iff.mpr hc
theorem min_strs {prog : Program} {w : World} {A : Around} {E : Value → Shared → Prop} {s : Shared} {h₀ : Heap} {L l : Addr} {m : Str → Option Value} {news : Led} {xs : List (Str × Tok)} {n : Nat} {Q : Value → Shared → Prop} (hh : A.handled = none) (F : Fr h₀ L s.heap m) (N : News h₀ L s.heap news) (hm : (l, listOf (xs.map strO.val).toArray n) ∈ news) (hne : 0 < xs.length)
    (h : ∀ h' M (t : Tok) tk, Fr h₀ L h' m → News h₀ L h' news → M ∈ xs.map (·.1) → (∀ a ∈ xs.map (·.1), sless a M = false) → Q (.str M t) { s with heap := h', toks := tk }) :
    wpAny (model prog w) A (call (.builtin "min") [.ref l]) Q E s := by
  have hl := PySem.IsL.isList (n := n) (N _ hm).1
  have hlt : l < s.heap.objs.size := Heap.lt_size (N _ hm).1
  have hsz : (xs.map strO.val).toArray.size = xs.length := by simp
  refine call_min_walk (wpAny_pyIter_list hl ?_)
  refine ⟨_, _, _, _, _, _, fun i j => sless (xs.getD i default).1 (xs.getD j default).1, rfl, Walks.list (A := A.in1) hh _ l (Nat.ne_of_lt hlt) (xs.map strO.val).toArray, ⟨⟨_, Heap.get?_push_size _ rfl, rfl, rfl⟩, hl.push _⟩, fun b hb => ?_, by rw [hsz]; exact hne, ?_, fun v h' tk hP hk => ?_⟩
  · show b < (s.heap.push _).objs.size
    rw [Heap.size_push]
    rcases List.mem_cons.mp hb with rfl | hb
    · exact Nat.lt_succ_self _
    · rw [List.mem_singleton.mp hb]
      exact Nat.lt_succ_of_lt hlt
  · intro i j v v' s Q E hi hj hq
    have hv : ∀ {i v}, (xs.map strO.val).toArray[i]? = some v → v = strO.val (xs.getD i default) := fun {i v} hi => by
      rw [List.getElem?_toArray, List.getElem?_map] at hi
      obtain ⟨y, hy, rfl⟩ := Option.map_eq_some_iff.mp hi
      rw [List.getD_eq_getElem?_getD, hy]; rfl
    rw [hv hi, hv hj]
    exact cmp_less hq
  · obtain ⟨h1, h2⟩ := argBest_least (fun i => (xs.getD i default).1) (xs.length - 1)
    rw [hsz] at hP
    generalize hb : argBest (fun i j => sless (xs.getD i default).1 (xs.getD j default).1) (xs.length - 1) = b at *
    have hbl : b < xs.length := by lia
    have hv : v = strO.val (xs.getD b default) := by
      rw [List.getElem?_toArray, List.getElem?_map] at hP
      obtain ⟨y, hy, rfl⟩ := Option.map_eq_some_iff.mp hP
      rw [List.getD_eq_getElem?_getD, hy]; rfl
    subst hv
    have hk' := old_kept hk
    refine h h' _ _ tk (F.grownK hk') (N.grown hk') (List.mem_map.mpr ⟨_, getD_mem hbl, rfl⟩) fun a ha => ?_
    obtain ⟨y, hy, rfl⟩ := List.mem_map.mp ha
    obtain ⟨j, hj, rfl⟩ := List.getElem_of_mem hy
    have := h2 j (by lia)
    rw [show xs.getD j default = xs[j] by simp [hj]] at this
    exact this

end

-- text: SortS
section
open PySem.Spec
theorem not_less_tr {a b c : Str} (h1 : sless b a = false) (h2 : sless c b = false) : sless c a = false := by
  cases h3 : sless c a with
  | false => rfl
  | true =>
    by_cases e : a = b
    · subst e; rw [h3] at h2; cases h2
    · rcases sless_tot e with h4 | h4
      · rw [sless_tr h3 h4] at h2; cases h2
      · rw [h4] at h1; cases h1
theorem lt_cps (a b : Str) : ltCps a.cps.toList b.cps.toList = sless a b := ltCps_eq _ _
theorem rising_pairs : ∀ (p : Str) (l : List Str), risingS p l = true → (p :: l).Pairwise (fun a b => sless b a = false)
  | p, [], _ => List.pairwise_singleton _ _
  | p, x :: r, h => by
    have h : (!ltCps x.cps.toList p.cps.toList && risingS x r) = true := h
    rw [lt_cps, Bool.and_eq_true, Bool.not_eq_true'] at h
    have ih := rising_pairs x r h.2
    refine List.pairwise_cons.mpr ⟨fun b hb => ?_, ih⟩
    rcases List.mem_cons.mp hb with rfl | hb
    · exact h.1
    · exact not_less_tr h.1 (List.rel_of_pairwise_cons ih hb)
theorem strs_back : ∀ {vs : List Value} {ss : List Str}, StrsAre vs ss → ∃ zs : List (Str × Tok), vs = zs.map strO.val ∧ zs.map (·.1) = ss
  | _, _, .nil => ⟨[], rfl, rfl⟩
  | _, _, .cons x t r => by
    obtain ⟨zs, rfl, rfl⟩ := strs_back r
    exact ⟨(x, t) :: zs, rfl, rfl⟩
theorem sorted_led {prog : Program} {w : World} {A : Around} {E : Value → Shared → Prop} {s : Shared} {h₀ : Heap} {L l : Addr} {m : Str → Option Value} {news : Led} {xs : List (Str × Tok)} {n : Nat} {Q : Value → Shared → Prop} (F : Fr h₀ L s.heap m) (N : News h₀ L s.heap news) (hm : (l, listOf (xs.map strO.val).toArray n) ∈ news) (h64 : xs.length < 64)
    (h : ∀ D (zs : List (Str × Tok)) c h', Fr h₀ L h' m → News h₀ L h' ((D, listOf (zs.map strO.val).toArray c) :: news) → AllLt D news → (zs.map (·.1)).Perm (xs.map (·.1)) → (zs.map (·.1)).Pairwise (fun a b => sless b a = false) → Q (.ref D) { s with heap := h' }) :
    wpAny (model prog w) A (call (.builtin "sorted") [.ref l]) Q E s := by
  refine sorted_N_str F N (PySem.IsL.isList (n := n) (N _ hm).1) (strs_are xs) (by rw [List.length_map]; exact h64) fun h' vs' ss' e F' N' hS hp hs => ?_
  obtain ⟨zs, rfl, rfl⟩ := strs_back hS
  refine h _ zs e h' F' N' (allLt_of fun p hp => Nat.lt_succ_of_lt (Heap.lt_size (N p hp).1)) hp ?_
  cases hz : zs.map (·.1) with
  | nil => exact List.Pairwise.nil
  | cons a r => rw [hz] at hs; exact rising_pairs a r hs

end

-- text: Due0
noncomputable def dueF : Stmt := match lawB[15]? with
  | some x => x
  | none => .Pass ⟨0, 0, 0, 0⟩
noncomputable def dueB : List Stmt := match dueF with
  | .For _ _ body .. => body
  | _ => []
/-- the body of the law's last loop from its statement at place k on -/
noncomputable abbrev dueWp (w : World) (L fa : Addr) (cd : Value) (k : Nat) (Q : Flow → Shared → Prop) (E : Value → Shared → Prop) (s : Shared) : Prop :=
  wpAny (model PySem.Challenge.rw_nq0173_01.row.prog w) (callerA.deeper (lawE L fa cd)) (execs (dueB.drop k) (lawE L fa cd)) Q E s

-- text: Due1
section
open PyProof.Rows.LCg (NsObj lst)
section
variable {w : World} {mean : ExcName → Option Value} {mg mb : Str → Option Value} {h₀ base : Heap} {L fa : Addr} {cd : Value} {m : Str → Option Value} {s : Shared} {Q : Flow → Shared → Prop} {E : Value → Shared → Prop}
theorem due1 (B : Below callerA base [] h₀) (F : Fr h₀ L s.heap m) (T : Top q0 (looseW q0 loose0) mean mg mb h₀) {rest : Led} {D O : Addr} {ps os : List (Str × Tok)} {np no : Nat} {o2 o3 : Obj}
    (N : News h₀ L s.heap ((L + 1 + 1, o2) :: (L + 1 + 1 + 1, o3) :: (D, listOf (ps.map strO.val).toArray np) :: (O, listOf (os.map strO.val).toArray no) :: rest))
    (ho2 : ∃ v, o2.data = .cell v) (ho3 : ∃ v, o3.data = .cell v) (off2 : ∀ p ∈ (D, listOf (ps.map strO.val).toArray np) :: (O, listOf (os.map strO.val).toArray no) :: rest, p.1 ≠ L + 1 + 1) (off3 : ∀ p ∈ (D, listOf (ps.map strO.val).toArray np) :: (O, listOf (os.map strO.val).toArray no) :: rest, p.1 ≠ L + 1 + 1 + 1)
    (hos : os.map (·.1) = ps.map (fun p => lawMod p.1)) (hlen : ps.length < 60) (hps : ∀ p ∈ ps, p.1.length < 1000) {x : Str × Tok} (hx : x.1 ∈ ps.map (·.1))
    (mX : m (Str.ofString "path") = some (.str x.1 x.2)) (mP : m (Str.ofString "paths") = some (.ref D)) (mO : m (Str.ofString "owners") = some (.ref O))
    (next : ∀ (h' : Heap) (tk' : Nat) (o2' o3' : Obj) (t2 t3 : Tok) (lst : Str), Fr h₀ L h' m → News h₀ L h' ((L + 1 + 1, o2') :: (L + 1 + 1 + 1, o3') :: (D, listOf (ps.map strO.val).toArray np) :: (O, listOf (os.map strO.val).toArray no) :: rest) → o2'.data = .cell (some (.str (lawMod x.1) t2)) → o3'.data = .cell (some (.str lst t3)) →
      lst ∈ (ps.filter fun p => decide (lawMod p.1 = lawMod x.1)).map (·.1) → (∀ a ∈ (ps.filter fun p => decide (lawMod p.1 = lawMod x.1)).map (·.1), sless a lst = false) → dueWp w L fa cd 2 Q E { s with heap := h', toks := tk' }) :
    (hd.heap_1 w.params).In h₀ → dueWp w L fa cd 0 Q E s := by
  have mk34 : True := .intro
  unfold dueWp at next ⊢
  k_fill
  intro X
  k_with "m:own" => ((fail_if_success fail_if_success clear mk34); (((with_reducible show wpAny _ _ (eval (PySem.Expr.Name _ _) (envOfC _ _ _ _ _)) _ _ _); k_dflt (refine' nameX_L ?F ?v ?_ ?a ?b; (case F => k_asm); (case v => with_reducible assumption); (case a => rfl); (case b => rfl); k_whole))))
  k_with "m:stop" => ((fail_if_success fail_if_success clear mk34); ((with_reducible show wpAny _ _ (call (Value.ref _) _) _ _ _)))
  k_with "m:stop" => ((fail_if_success fail_if_success clear mk34); ((with_reducible show wpAny _ _ (storeName _ (Str.ofString "module") _) _ _ _)))
  k_extra "m:steps"
  obtain ⟨y, hy, hyx⟩ := List.mem_map.mp hx
  k_dflt (refine' Con.useT ?k1 ?k2 ?k3 ?k4 ?k5 ?k6 (lawmod_con (hyx ▸ hps _ hy)) ?k7 ?k8 ?_)
  k_extra "m:use"
  intro t2 h1 tk1 F1 N1
  clear F N
  k_extra "m:steps"
  obtain ⟨v2, hv2⟩ := ho2
  k_dflt (refine storeX_C F1 N1 (c := L + 1 + 1) rfl (UpdF.head (List.forall_mem_cons.mpr ⟨Nat.succ_ne_self _, off2⟩)) hv2 ?_ rfl rfl)
  intro h2 o2' F2 N2 d2
  clear F1 N1
  k_extra "m:steps"
  k_with "m:own" => ((fail_if_success fail_if_success clear mk34); (((with_reducible show wpAny _ _ (eval (PySem.Expr.Name _ _) (compEnvC _ _ _ _)) _ _ _); k_dflt (refine kcf_cell (by k_asm) (by rfl) (by repeat (first | exact List.Mem.head _ | refine List.Mem.tail _ ?_)) d2 ?_))))
  k_with "m:stop" => ((fail_if_success fail_if_success clear mk34); ((with_reducible show wpAny _ _ (call (Value.type "zip") _) _ _ _)))
  k_dflt (refine cg_eval F2 (by with_unfolding_all rfl) (by decide) (by rfl) (by decide) ?_)
  k_extra "m:steps"
  have hlo : os.length = ps.length := by
    have := congrArg List.length hos
    rwa [List.length_map, List.length_map] at this
  k_dflt (refine' cg_zip (xs := ps.map strO.val) (ys := os.map strO.val) ?k1 ?k2 ?k3 ?k4 ?k5 ?kl ?ks ?k6 ?k7 ?k8 ?k9 (fun i ys nw => ys = ((ps.take i).filter fun p => decide (lawMod p.1 = lawMod x.1)).map strO.val ∧ nw = (L + 1 + 1, o2') :: (L + 1 + 1 + 1, o3) :: (D, listOf (ps.map strO.val).toArray np) :: (O, listOf (os.map strO.val).toArray no) :: rest) ?kJ ?turn ?fin; (case k1 => exact rfl); (case k2 => k_asm); (case k3 => k_asm); (case k4 => k_mem); (case k5 => k_mem); (case kl => rw [List.length_map, List.length_map, hlo]); (case ks => rw [List.length_map]; unfold sizeLine; omega); (case k6 => exact rfl); (case k7 => exact rfl); (case k8 => decide); (case k9 => exact rfl); (case kJ => exact ⟨rfl, rfl⟩))
  case turn =>
    refine two_turn ?_
    intro i hi I1 q1 I2 q2 I3 q3 I4 q4 I5 q5 C7 oC7 D8 m7 h5 tk5 E5 hx7 hy7 hC7 F5 N6 off5
    rw [List.length_map] at hi
    rw [getD_strs hi] at hx7
    rw [getD_strs (by omega)] at hy7
    have hmod : (os.getD i default).1 = lawMod (ps.getD i default).1 := by
      have h9 := congrArg (fun l => l.getD i default) hos
      rw [getD_fst] at h9
      rw [h9]; simp [hi]
    refine wpAny_tests_one ?_
    k_extra "m:steps"
    all_goals rename (_ == _) = _ => hbq
    all_goals rw [hmod] at hbq
    · exact cg_end _ F5 N6 (fun p hp => hp) off5 (List.forall_mem_cons.mpr ⟨by k_mem, List.forall_mem_cons.mpr ⟨by k_mem, List.forall_mem_nil _⟩⟩) ⟨filt_hit hi (decide_eq_true (eq_of_beq hbq)), rfl⟩
    · exact cg_end _ F5 N6 (fun p hp => hp) off5 (List.forall_mem_cons.mpr ⟨by k_mem, List.forall_mem_cons.mpr ⟨by k_mem, List.forall_mem_nil _⟩⟩) ⟨filt_miss hi (decide_eq_false fun e => by rw [e, beq_self_eq_true] at hbq; cases hbq), rfl⟩
  case fin =>
    refine two_fin ?_
    intro D7 g7 offD7 ltD7 h5 tk5 F5 N6
    rw [List.length_map, List.take_length] at N6
    k_with "m:stop" => ((fail_if_success fail_if_success clear mk34); ((with_reducible show wpAny _ _ (call (Value.builtin "min") _) _ _ _)))
    k_with "m:stop" => ((fail_if_success fail_if_success clear mk34); ((with_reducible show wpAny _ _ (storeName _ (Str.ofString "least") _) _ _ _)))
    k_extra "m:steps"
    generalize hcand : (ps.filter fun p => decide (lawMod p.1 = lawMod x.1)) = cand at N6 next
    have hne : 0 < cand.length := List.length_pos_of_mem (a := y) (by rw [← hcand]; exact List.mem_filter.mpr ⟨hy, decide_eq_true (by rw [hyx])⟩)
    k_dflt (refine min_strs rfl F5 N6 (List.Mem.head _) hne ?_)
    intro h6 lst t3 tk6 F6 N7 hin hmin
    k_extra "m:steps"
    obtain ⟨v3, hv3⟩ := ho3
    k_dflt (refine storeX_C F6 N7 (c := L + 1 + 1 + 1) rfl (UpdF.tail (offD7 _ (.tail _ (.head _))).symm (UpdF.tail (Nat.ne_of_lt (Nat.lt_succ_self _)) (UpdF.head off3))) hv3 ?_ rfl rfl)
    intro h7 o3' F7 N8 d3
    k_with "m:stop" => ((fail_if_success fail_if_success clear mk34); ((with_reducible show wpAny _ _ (execs _ _) _ _ _)))
    k_extra "m:steps"
    exact next _ _ o2' o3' t2 t3 lst F7 (fun p hp => N8 p (.tail _ hp)) d2 d3 hin hmin
end

end

-- text: Due2
theorem setup_Due2 : True := by
  k_with_none
  w_top off
  k_with "m:own" => ((with_reducible show wpAny _ _ (subscriptTail _ _ (Value.ref _) (Value.int _ _)) _ _ _); k_dflt (refine' item_ledN (ι := ?ki) ?k1 ?k2 ?k4 ?k5 ?_ ?k7; (case k1 => k_asm); (case k2 => k_mem); (case ki => infer_instance); (case k4 => lia); (case k5 => lia); (case k7 => with_unfolding_all rfl); k_whole))
  k_with "m:own" => ((with_reducible show wpAny _ _ (subscriptTail _ _ (Value.ref _) (Value.int 0 _)) _ _ _); k_dflt (refine' item_led0 (ι := ?ki) ?k1 ?k2 ?k4 ?k5 ?_ ?k7; (case k1 => k_asm); (case k2 => k_mem); (case ki => infer_instance); (case k4 => lia); (case k5 => lia); (case k7 => with_unfolding_all rfl); k_whole))
  k_with "m:own" => ((with_reducible show wpAny _ _ (setItem (Value.ref _) (Value.int 0 _) _) _ _ _); k_dflt (refine' set_led0 ?k1 ?k2 ?k3 ?k5 ?k6 ?_; (case k1 => k_asm); (case k2 => k_asm); (case k3 => first | exact Upd.head (by assumption) | k_upd); (case k5 => lia); (case k6 => lia); k_whole); intro h' F' N'; (try k_sweep))
  k_with "m:own" => ((with_reducible show wpAny _ _ (setItem (Value.ref _) (Value.int _ _) _) _ _ _); k_dflt (refine' set_ledN ?k1 ?k2 ?k3 ?k5 ?k6 ?_; (case k1 => k_asm); (case k2 => k_asm); (case k3 => first | exact Upd.head (by assumption) | k_upd); (case k5 => lia); (case k6 => lia); k_whole); intro h' F' N'; (try k_sweep))
  k_with "m:own" => ((with_reducible show wpAny _ _ (compareOp CmpOp.Lt (Ordr.val _ _) (Ordr.val _ _)) _ _ _); k_dflt (refine' Ordr.cmp1 _ ?k1 ?k2 ?k3 ?k4 ?_; (case k1 => k_asm); (case k2 => first | assumption | exact ok_get! (by assumption) (by lia)); (case k3 => first | assumption | exact ok_get! (by assumption) (by lia)); (case k4 => ktr_units); k_whole); intro tk')
  k_with "m:own" => ((with_reducible refine shr_one ?kb1 ?_); (case kb1 => lia))
  k_with "m:own" => ((with_reducible show wpAny _ _ (call (Value.builtin "len") [Value.ref _]) _ _ _); k_dflt (refine' len_led ?k1 ?k2 ?k3 ?_; (case k1 => k_asm); (case k2 => k_mem); (case k3 => lia); k_whole); intro tl' tk')
  k_with "m:own" => ((with_reducible refine add1_nat ?_); intro tk')
  k_with "m:own" => ((with_reducible refine mul2_nat ?_); intro tk')
  k_with "m:own" => ((with_reducible show wpAny _ _ (call (Value.builtin "list.append") [Value.ref _, Ordr.val _ _]) _ _ _); k_dflt (refine' append_led ?k1 ?k2 ?k3 ?k5 ?_; (case k1 => k_asm); (case k2 => k_asm); (case k3 => first | exact Upd.head (by assumption) | k_upd); (case k5 => unfold sizeLine; lia); k_whole); intro h' F' N'; (try k_sweep))
  k_with "m:own" => ((with_reducible show wpAny _ _ (truthy (Value.ref _)) _ _ _); k_dflt (refine' truthy_led ?k1 ?k2 ?k5 ?_; (case k1 => k_asm); (case k2 => k_mem); (case k5 => unfold sizeLine; lia); k_whole); intro tk')
  k_with "m:own" => ((with_reducible refine half_nat ?_); intro tk')
  k_with "m:own" => ((with_reducible show wpAny _ _ (subscriptTail _ _ (Value.ref _) (Value.int (-1) _)) _ _ _); k_dflt (refine' item_lastS ?k1 ?k2 ?k4 ?k5 ?_ ?k7; (case k1 => k_asm); (case k2 => k_mem); (case k4 => first | assumption | lia); (case k5 => first | assumption | lia); (case k7 => with_unfolding_all rfl); k_whole); (try (have hle' := last_len es' hp')))
  k_with "m:own" => ((with_reducible show wpAny _ _ (call (Value.builtin "str.split") [Value.str _ _, Value.str _ _]) _ _ _); k_dflt (refine' split_led ?k1 ?k2 ?k3 ?_ ?k5; (case k1 => k_asm); (case k2 => k_asm); (case k3 => decide); (case k5 => unfold sizeLine; lia); k_whole); intro Ds' ls' h' tk' es' hp' hw' F' N' l1'; (try k_sweep))
  k_with "m:own" => ((with_reducible show wpAny _ _ (call (Value.builtin "str.join") [Value.str _ _, Value.ref _]) _ _ _); k_dflt (refine' join_led ?k1 ?k2 ?k3 ?_; (case k1 => k_asm); (case k2 => k_mem); (case k3 => k_extra "m:sizes"); k_whole); intro t' tk')
  k_with "m:own" => ((with_reducible show wpAny _ _ (subscriptTail _ (PySem.Expr.Slice none (some _) none _) (Value.ref _) (Value.ref _)) _ _ _); k_dflt (refine' slice_led ?k1 ?k2 ?k3 (IsPart.none) (IsPart.int (-1) _) (pick_init _) ?_ ?s ?t ?z; (case k1 => k_asm); (case k2 => k_asm); (case k3 => k_mem); (case s => with_unfolding_all rfl); (case t => intro _; with_unfolding_all rfl); (case z => unfold sizeLine; lia); k_whole); intro Dl' h' F' N' l1'; (try k_sweep))
  k_with "m:enterC" => (refine' code_defC ?k1 ?k2 ?k3 ?k4 ?k5 ?kA ?kF ?kK ?k6 ?k7 ?k8 ?k9 ?kB ?kD ?_ ?c2 ?c3 ?c4; (case kA => exact rfl); (case kF => exact rfl); (case kK => assumption); (case k1 => k_asm); (case k2 => k_asm); (case k3 => k_asm); (case k4 => k_asm); (case k5 => k_asm); (case k6 => k_is); (case k7 => k_is); (case k8 => ktr_room); (case k9 => exact BindsTo.of_eq rfl); (case kB => exact rfl); (case kD => decide +kernel); (case c2 => exact rfl); (case c3 => exact rfl); (case c4 => exact rfl); k_whole; intro g' L' h' tk' cells' FG' F' N' Y' B' X' T' l1'; k_cells Y'; (try simp only [List.cons_append, List.nil_append] at N'); (try dsimp only); (try k_lift B'); (try k_fold))
  k_with "m:enterD" => (refine' code_defC ?k1 ?k2 ?k3 ?k4 ?k5 ?kA ?kF ?kK ?k6 ?k7 ?k8 ?k9 ?kB ?kD ?_ ?c2 ?c3 ?c4; (case kA => exact rfl); (case kF => exact rfl); (case kK => assumption); (case k1 => k_asm); (case k2 => k_asm); (case k3 => k_asm); (case k4 => k_asm); (case k5 => k_asm); (case k6 => k_is); (case k7 => k_is); (case k8 => ktr_room); (case k9 => exact binds_K (by k_in) rfl (by k_is) rfl rfl rfl); (case kB => exact rfl); (case kD => decide +kernel); (case c2 => exact rfl); (case c3 => exact rfl); (case c4 => exact rfl); k_whole; intro g' L' h' tk' cells' FG' F' N' Y' B' X' T' l1'; k_cells Y'; (try simp only [List.cons_append, List.nil_append] at N'); (try dsimp only); (try k_lift B'); (try k_fold))
  k_with "m:enterK" => (refine' code_def ?k1 ?k2 ?k3 ?k4 ?k5 ?kA ?kF ?kK ?k6 ?k7 ?k8 ?k9 ?kB ?_ ?c2 ?c3 ?c4 ?c5; (case kA => exact rfl); (case kF => exact rfl); (case kK => assumption); (case k1 => k_asm); (case k2 => k_asm); (case k3 => k_asm); (case k4 => k_asm); (case k5 => k_asm); (case k6 => k_is); (case k7 => k_is); (case k8 => ktr_room); (case k9 => first | exact BindsTo.of_eq rfl | exact binds_K (by k_in) rfl (by k_is) rfl rfl rfl); (case c5 => decide); (case kB => exact locs rfl); (case c2 => exact rfl); (case c3 => exact rfl); (case c4 => exact rfl); k_whole; intro g' L' h' FG' F' N' B' X' T'; (try dsimp only); (try k_lift B'); (try k_fold))
  k_with "m:comp" => (k_dflt (refine LCg.ListComp_U (F₀ := by k_asm) (by with_unfolding_all rfl) (by decide) (by rfl) (by decide) (by rfl) ?_))
  k_with "m:own" => ((with_reducible show wpAny _ _ (binaryOp Operator.Pow (Value.int _ _) (Value.int (Nat.cast _) _)) _ _ _); (with_reducible refine pow_small ?k1 ?k2 ?_); (case k1 => decide); (case k2 => lia); intro tk')
  k_with "m:own" => ((with_reducible show wpAny _ _ (subscriptTail _ _ (Value.ref _) (Value.int _ _)) _ _ _); k_dflt (refine' item_any ?k1 ?k2 ?k3 ?k4 ?k5 ?_ ?k7; (case k1 => k_asm); (case k2 => k_mem); (case k3 => assumption); (case k4 => first | assumption | (refine Int.lt_of_lt_of_le (by assumption) ?_; decide)); (case k5 => first | decide | (show _ < _; lia)); (case k7 => with_unfolding_all rfl); k_whole))
  k_with "m:own" => ((with_reducible refine fdiv_pow ?k1 ?k2 ?_); (case k1 => decide); (case k2 => lia); intro tk')
  k_with "m:own" => ((with_reducible show wpAny _ _ (call (Value.builtin "list.index") [Value.ref _, Value.str _ _]) _ _ _); k_dflt (refine' index_strs ?k1 ?k2 ?k3 ?k4 ?_; (case k1 => k_asm); (case k2 => k_mem); (case k3 => assumption); (case k4 => assumption); k_whole); intro tk')
  k_with "m:own" => ((with_reducible show wpAny _ _ (subscriptTail _ (PySem.Expr.Slice none (some _) none _) (Value.ref _) (Value.ref _)) _ _ _); k_dflt (refine' slice_led ?k1 ?k2 ?k3 (IsPart.none) (IsPart.int (Nat.cast _) _) (pick_upto _ _) ?_ ?s ?t ?z; (case k1 => k_asm); (case k2 => k_asm); (case k3 => k_mem); (case s => with_unfolding_all rfl); (case t => intro _; with_unfolding_all rfl); (case z => unfold sizeLine; lia); k_whole); intro Dl' h' F' N' l1'; (try k_sweep))
  k_with "m:own" => ((with_reducible show wpAny _ _ (subscriptTail _ (PySem.Expr.Slice (some _) none none _) (Value.ref _) (Value.ref _)) _ _ _); k_dflt (refine' slice_led ?k1 ?k2 ?k3 (IsPart.int (Nat.cast _) _) (IsPart.none) (pick_from _ _) ?_ ?s ?t ?z; (case k1 => k_asm); (case k2 => k_asm); (case k3 => k_mem); (case s => with_unfolding_all rfl); (case t => intro _; with_unfolding_all rfl); (case z => unfold sizeLine; lia); k_whole); intro Dl' h' F' N' l1'; (try k_sweep))
  k_with "m:enterB" => (refine' kp_both ?k1 ?k2 ?k3 ?k4 ?k5 ?kA ?kF ?kK ?k6 ?k7 ?k8 ?kV ?kX ?kQ ?kM ?kN ?kD ?kR ?kP ?kS ?kT ?kB ?_ ?c2 ?c3 ?c4 ?c5; (case kA => exact rfl); (case kF => exact rfl); (case kK => assumption); (case k1 => k_asm); (case k2 => k_asm); (case k3 => k_asm); (case k4 => k_asm); (case k5 => k_asm); (case k6 => k_is); (case k7 => k_is); (case k8 => ktr_room); (case kV => kp_lit); (case kX => kp_lit); (case kQ => exact rfl); (case kM => exact rfl); (case kN => exact rfl); (case kD => kp_flats); (case kR => exact rfl); (case kP => exact rfl); (case kS => exact fun _ => rfl); (case kT => exact fun _ _ => rfl); (case kB => exact fun _ _ => locs rfl); (case c5 => decide); (case c2 => exact rfl); (case c3 => exact rfl); (case c4 => exact rfl); k_whole; intro C' D' o' g' L' h' tk' l1 l2 lo' hs' fs' FG' F' N' B' X' T'; (try dsimp only); (try k_lift B'); (try k_fold))
  k_with "m:own" => ((with_reducible show wpAny _ _ (call (Value.builtin "list.append") [Value.ref _, Value.str _ _]) _ _ _); k_dflt (refine' append_strs ?k1 ?k2 ?k3 ?k5 ?_; (case k1 => k_asm); (case k2 => k_asm); (case k3 => first | exact Upd.head (by assumption) | exact Upd.tail (by assumption) (Upd.head (by assumption)) | k_upd); (case k5 => unfold sizeLine; lia); k_whole); intro h' F' N'; (try k_sweep))
  k_with "m:same" => first | (intro z hp hz; (try dsimp only); (repeat (first | exact same_kst hz | refine same_ite (ne_c rfl hz) ?_)); done) | ksw_same
  k_with "m:use" => ((case k1 => k_asm); (case k2 => k_asm); (case k3 => k_asm); (case k4 => k_asm); (case k5 => k_asm); (case k6 => exact rfl); (case k7 => first | exact room2 (by assumption) rfl | exact room3 (by assumption) rfl | exact room4 (by assumption) rfl | exact room5 (by assumption) rfl | ktr_room); (case k8 => first | exact room2 (by assumption) rfl | exact room3 (by assumption) rfl | exact room4 (by assumption) rfl | exact room5 (by assumption) rfl | ktr_units))
  k_with "m:steps" => repeat' (
    (fail_if_success (with_reducible show wpAny _ _ (exec (Stmt.While _ _ _ _) _) _ _ _))
    (fail_if_success (with_reducible show wpAny _ _ (exec (Stmt.For _ _ _ _ _) _) _ _ _))
    (fail_if_success (with_reducible show wpAny _ _ (eval (PySem.Expr.ListComp _ _ _ _) _) _ _ _))
    (fail_if_success (with_reducible show wpAny _ _ (exec (Stmt.Assign _ (PySem.Expr.ListComp _ _ _ _) _) _) _ _ _))
    (fail_if_success (with_reducible show LCg.CompSrc _ _ _ _ _ _ _ _ _ _ _ _ _ _))
    (fail_if_success (with_reducible show LCg.CompRest _ _ _ _ _ _ _ _ _ _ _ _ _ _ _ _ _ _ _))
    (fail_if_success (with_reducible show LCg.CompEnd _ _ _ _ _ _ _ _ _ _ _ _ _ _))
    (fail_if_success (with_reducible show ItEnd _ _ _ _ _ _ _ _ _ _ _))
    (fail_if_success (with_reducible show wpAny _ _ (call (Value.type "reversed") _) _ _ _))
    (fail_if_success (with_reducible show KswEnd _ _ _ _ _ _ _ _ _ _ _ _))
    (fail_if_success (k_extra "m:stop"))
    first | (k_unfold; (try dsimp only)) | ((with_reducible show wpAny _ _ (execs (_ :: _) _) _ _ _); k_fold) | k_extra "m:own" | walk1 | (dsimp only; walk1) | (leave1; walk_say "STEP leave1"; try dsimp only) | fail "no step")
  trivial
section
open PyProof.Rows.LCg (NsObj lst)
noncomputable def abv (md name : Str) : Bool := Txt.slice (md ++ Str.ofString ".") none (some ((name.length + 1 : Nat) : Int)) == name ++ Str.ofString "."
section
variable {w : World} {mean : ExcName → Option Value} {mg mb : Str → Option Value} {h₀ base : Heap} {L fa : Addr} {cd : Value} {m : Str → Option Value} {s : Shared} {Q : Flow → Shared → Prop} {E : Value → Shared → Prop}
theorem due2 (B : Below callerA base [] h₀) (F : Fr h₀ L s.heap m) (T : Top q0 (looseW q0 loose0) mean mg mb h₀) {news : Led} (N : News h₀ L s.heap news) {oc : Obj} {md : Str} {t2 : Tok} (hc : (L + 1 + 1, oc) ∈ news) (d2 : oc.data = .cell (some (.str md t2))) {M : Addr} {mods : List (Str × Tok)} {nm : Nat} (hm : (M, listOf (mods.map strO.val).toArray nm) ∈ news)
    (mM : m (Str.ofString "modules") = some (.ref M)) (hml : mods.length < 10) (hmd : md.length < 1000) (hm1 : ∀ p ∈ mods, p.1.length < 1000)
    (next : ∀ (h' : Heap) (tk' : Nat) (m' : Str → Option Value) (A' : Addr), Fr h₀ L h' m' → News h₀ L h' ((A', lst ((mods.filter fun p => abv md p.1).map strO.val)) :: news) → AllLt A' news → m' (Str.ofString "above") = some (.ref A') → (∀ z, z ≠ Str.ofString "above" → m' z = m z) → dueWp w L fa cd 3 Q E { s with heap := h', toks := tk' }) :
    (hd.heap_1 w.params).In h₀ → dueWp w L fa cd 2 Q E s := by
  have mk35 : True := .intro
  unfold dueWp at next ⊢
  k_fill
  intro X
  k_with "m:own" => ((fail_if_success fail_if_success clear mk35); (((with_reducible show wpAny _ _ (eval (PySem.Expr.Name _ _) (envOfC _ _ _ _ _)) _ _ _); k_dflt (refine' nameX_L ?F ?v ?_ ?a ?b; (case F => k_asm); (case v => with_reducible assumption); (case a => rfl); (case b => rfl); k_whole))))
  k_with "m:own" => ((fail_if_success fail_if_success clear mk35); (((with_reducible show wpAny _ _ (eval (PySem.Expr.Name _ _) (compEnvC _ _ _ _)) _ _ _); k_dflt (refine kcf_cell (by k_asm) (by rfl) (by repeat (first | exact hc | refine List.Mem.tail _ ?_)) d2 ?_))))
  k_extra "m:steps"
  k_dflt (refine cg_assign F (by with_unfolding_all rfl) (by with_unfolding_all rfl) (by decide) (by rfl) (by decide) (by rfl) (by rfl) ?_)
  k_extra "m:steps"
  k_dflt (refine' cg_list (vs := mods.map strO.val) ?k1 ?k2 ?k3 ?k4 ?k5 ?k6 ?k7 (fun i ys nw => ys = ((mods.take i).filter fun p => abv md p.1).map strO.val ∧ nw = news) ?kJ ?turn ?fin; (case k1 => exact rfl); (case k2 => k_asm); (case k3 => k_asm); (case k4 => exact hm); (case k5 => simp; unfold sizeLine; omega); (case k6 => exact rfl); (case k7 => exact rfl); (case kJ => exact ⟨rfl, rfl⟩))
  case turn =>
    refine two_turn ?_
    intro i hi I7 oI7 C7 oC7 D8 m7 h5 tk5 E5 hx7 hC7 F5 N6 off5
    rw [List.length_map] at hi
    rw [getD_strs hi] at hx7
    have hn1 := hm1 _ (getD_mem hi)
    refine wpAny_tests_one ?_
    k_extra "m:steps"
    all_goals dsimp only
    all_goals (rename Fr _ _ _ _ => Fn)
    all_goals (rename News _ _ _ _ => Nn)
    all_goals (rename (_ == _) = _ => hbq)
    · exact cg_end _ Fn Nn (fun p hp => hp) off5 (fun p hp => by rw [List.mem_singleton.mp hp]; exact hm) ⟨filt_hit hi hbq, rfl⟩
    · exact cg_end _ Fn Nn (fun p hp => hp) off5 (fun p hp => by rw [List.mem_singleton.mp hp]; exact hm) ⟨filt_miss hi hbq, rfl⟩
  case fin =>
    refine two_fin ?_
    intro D7 g7 offD7 ltD7 h5 tk5 F5 N6
    rw [List.length_map, List.take_length] at N6
    exact next _ _ _ D7 F5 N6 (allLt_of ltD7) (if_pos rfl) (fun z hz => if_neg hz)
end

end

-- text: Due3
section
open PyProof.Rows.LCg (NsObj lst)
noncomputable def blw (least name : Str) : Bool := Txt.slice least none (some (name.length : Int)) == name
section
variable {w : World} {mean : ExcName → Option Value} {mg mb : Str → Option Value} {h₀ base : Heap} {L fa : Addr} {cd : Value} {m : Str → Option Value} {s : Shared} {Q : Flow → Shared → Prop} {E : Value → Shared → Prop}
theorem due3 (B : Below callerA base [] h₀) (F : Fr h₀ L s.heap m) (T : Top q0 (looseW q0 loose0) mean mg mb h₀) {news : Led} (N : News h₀ L s.heap news) {oc : Obj} {md : Str} {t2 : Tok} (hc : (L + 1 + 1 + 1, oc) ∈ news) (d2 : oc.data = .cell (some (.str md t2))) {M : Addr} {mods : List (Str × Tok)} {nm : Nat} (hm : (M, listOf (mods.map strO.val).toArray nm) ∈ news)
    (mM : m (Str.ofString "plain") = some (.ref M)) (hml : mods.length < 10) (hmd : md.length < 1000) (hm1 : ∀ p ∈ mods, p.1.length < 1000)
    (next : ∀ (h' : Heap) (tk' : Nat) (m' : Str → Option Value) (A' : Addr), Fr h₀ L h' m' → News h₀ L h' ((A', lst ((mods.filter fun p => blw md p.1).map strO.val)) :: news) → AllLt A' news → m' (Str.ofString "below") = some (.ref A') → (∀ z, z ≠ Str.ofString "below" → m' z = m z) → dueWp w L fa cd 4 Q E { s with heap := h', toks := tk' }) :
    (hd.heap_1 w.params).In h₀ → dueWp w L fa cd 3 Q E s := by
  have mk36 : True := .intro
  unfold dueWp at next ⊢
  k_fill
  intro X
  k_with "m:own" => ((fail_if_success fail_if_success clear mk36); (((with_reducible show wpAny _ _ (eval (PySem.Expr.Name _ _) (envOfC _ _ _ _ _)) _ _ _); k_dflt (refine' nameX_L ?F ?v ?_ ?a ?b; (case F => k_asm); (case v => with_reducible assumption); (case a => rfl); (case b => rfl); k_whole))))
  k_with "m:own" => ((fail_if_success fail_if_success clear mk36); (((with_reducible show wpAny _ _ (eval (PySem.Expr.Name _ _) (compEnvC _ _ _ _)) _ _ _); k_dflt (refine kcf_cell (by k_asm) (by rfl) (by repeat (first | exact hc | refine List.Mem.tail _ ?_)) d2 ?_))))
  k_extra "m:steps"
  k_dflt (refine cg_assign F (by with_unfolding_all rfl) (by with_unfolding_all rfl) (by decide) (by rfl) (by decide) (by rfl) (by rfl) ?_)
  k_extra "m:steps"
  k_dflt (refine' cg_list (vs := mods.map strO.val) ?k1 ?k2 ?k3 ?k4 ?k5 ?k6 ?k7 (fun i ys nw => ys = ((mods.take i).filter fun p => blw md p.1).map strO.val ∧ nw = news) ?kJ ?turn ?fin; (case k1 => exact rfl); (case k2 => k_asm); (case k3 => k_asm); (case k4 => exact hm); (case k5 => simp; unfold sizeLine; omega); (case k6 => exact rfl); (case k7 => exact rfl); (case kJ => exact ⟨rfl, rfl⟩))
  case turn =>
    refine two_turn ?_
    intro i hi I7 oI7 C7 oC7 D8 m7 h5 tk5 E5 hx7 hC7 F5 N6 off5
    rw [List.length_map] at hi
    rw [getD_strs hi] at hx7
    have hn1 := hm1 _ (getD_mem hi)
    refine wpAny_tests_one ?_
    k_extra "m:steps"
    all_goals dsimp only
    all_goals (rename Fr _ _ _ _ => Fn)
    all_goals (rename News _ _ _ _ => Nn)
    all_goals (rename (_ == _) = _ => hbq)
    · exact cg_end _ Fn Nn (fun p hp => hp) off5 (fun p hp => by rw [List.mem_singleton.mp hp]; exact hm) ⟨filt_hit hi hbq, rfl⟩
    · exact cg_end _ Fn Nn (fun p hp => hp) off5 (fun p hp => by rw [List.mem_singleton.mp hp]; exact hm) ⟨filt_miss hi hbq, rfl⟩
  case fin =>
    refine two_fin ?_
    intro D7 g7 offD7 ltD7 h5 tk5 F5 N6
    rw [List.length_map, List.take_length] at N6
    exact next _ _ _ D7 F5 N6 (allLt_of ltD7) (if_pos rfl) (fun z hz => if_neg hz)
end

end

-- text: Due4
section
open PyProof.Rows.LCg (NsObj lst)
theorem eq_empty {prog : Program} {w : World} {A : Around} {E : Value → Shared → Prop} {s : Shared} {h₀ : Heap} {L D1 D2 : Addr} {news : Led} {xs : List (Str × Tok)} {n1 n2 : Nat} {its : Array Value} {Q : Value → Shared → Prop} (N : News h₀ L s.heap news) (h1 : (D1, listOf (xs.map strO.val).toArray n1) ∈ news) (h2 : (D2, listOf its n2) ∈ news) (e : its = #[]) (hu : A.units < cLine) (h : Q (.bool xs.isEmpty) s) :
    wpAny (model prog w) A (compareOp .Eq (.ref D1) (.ref D2)) Q E s := by
  subst e
  have l1 := PySem.IsL.isList (n := n1) (N _ h1).1
  have l2 := PySem.IsL.isList (n := n2) (N _ h2).1
  cases xs with
  | nil => exact PySem.SeqAt.eq_listAt (e := fun _ => true) l1 l2 rfl hu (fun j h1 => absurd h1 (Nat.not_lt_zero _)) h
  | cons x xs => exact PySem.SeqAt.eq_list_lengthsAt l1 l2 (by simp) hu h
section
variable {w : World} {mean : ExcName → Option Value} {mg mb : Str → Option Value} {h₀ base : Heap} {L fa : Addr} {cd : Value} {m : Str → Option Value} {s : Shared} {Q : Flow → Shared → Prop} {E : Value → Shared → Prop}
theorem due4 (B : Below callerA base [] h₀) (F : Fr h₀ L s.heap m) (T : Top q0 (looseW q0 loose0) mean mg mb h₀) {rest : Led} {U Ab Bl : Addr} {ab bl : List (Str × Tok)} {rows : List PRow} {a0 nu : Nat}
    (N : News h₀ L s.heap ((Bl, lst (bl.map strO.val)) :: (Ab, lst (ab.map strO.val)) :: (U, listOf (toldOf a0 rows).toArray nu) :: rest)) (hU1 : U ≠ Ab) (hU2 : U ≠ Bl) (hU : ∀ p ∈ rest, p.1 ≠ U) {o2 : Obj} {x : Str × Tok} {md : Str} {t2 : Tok} (hc : (L + 1 + 1, o2) ∈ rest) (d2 : o2.data = .cell (some (.str md t2)))
    (mX : m (Str.ofString "path") = some (.str x.1 x.2)) (mA : m (Str.ofString "above") = some (.ref Ab)) (mB : m (Str.ofString "below") = some (.ref Bl)) (mU : m (Str.ofString "due") = some (.ref U)) (hl1 : ab.length < 100) (hl2 : bl.length < 100) (hl3 : a0 < 100) (hl4 : rows.length < 100)
    (next : ∀ (h' : Heap) (tk' : Nat) (r : PRow), Fr h₀ L h' m → News h₀ L h' ((U, listOf (toldOf a0 (rows ++ [r])).toArray (nu + 1)) :: r.ent :: rest) → AllLt r.T ((U, listOf (toldOf a0 rows).toArray nu) :: rest) → r.plain = (x.1, md, !(ab ++ bl).isEmpty) → Q .next { s with heap := h', toks := tk' }) :
    (hd.heap_1 w.params).In h₀ → dueWp w L fa cd 4 Q E s := by
  have mk37 : True := .intro
  unfold dueWp
  k_fill
  intro X
  k_with "m:own" => ((fail_if_success fail_if_success clear mk37); (((with_reducible show wpAny _ _ (eval (PySem.Expr.Name _ _) (envOfC _ _ _ _ _)) _ _ _); k_dflt (refine' nameX_L ?F ?v ?_ ?a ?b; (case F => k_asm); (case v => with_reducible assumption); (case a => rfl); (case b => rfl); k_whole))))
  k_with "m:own" => ((fail_if_success fail_if_success clear mk37); (((with_reducible show wpAny _ _ (eval (PySem.Expr.Name (Str.ofString "module") _) (envOfC _ _ _ _ _)) _ _ _); k_dflt (refine' nameX_C ?N ?c ?h d2 ?_ ?a ?b; (case a => rfl); (case b => rfl); (case N => k_asm); (case c => rfl); (case h => repeat (first | exact hc | refine List.Mem.tail _ ?_)); k_whole))))
  k_with "m:own" => ((fail_if_success fail_if_success clear mk37); (((with_reducible show wpAny _ _ (binaryOp Operator.Add (Value.ref _) (Value.ref _)) _ _ _); k_dflt (refine' add_strs ?k1 ?k2 ?k3 ?k4 ?k5 ?_; (case k1 => k_asm); (case k2 => k_asm); (case k3 => k_mem); (case k4 => k_mem); (case k5 => unfold sizeLine; omega); k_whole); intro Dl' h' F' N' l1'; (try k_sweep))))
  k_with "m:own" => ((fail_if_success fail_if_success clear mk37); (((with_reducible show wpAny _ _ (compareOp CmpOp.Eq (Value.ref _) (Value.ref _)) _ _ _); k_dflt (refine' eq_empty ?k1 ?k2 ?k3 rfl ?k5 ?_; (case k1 => k_asm); (case k2 => k_mem); (case k3 => k_mem); (case k5 => ktr_units); k_whole))))
  k_with "m:stop" => ((fail_if_success fail_if_success clear mk37); ((with_reducible show wpAny _ _ (call (Value.builtin "list.append") _) _ _ _)))
  k_extra "m:steps"
  all_goals (rename_i l9 h9 ly he T' h7 Fn Nn lz)
  all_goals (k_dflt (refine append_K Fn Nn (Upd.tail (Nat.ne_of_gt lz.2.2.2.2.1) (Upd.tail (Nat.ne_of_gt ly.2.2.2.1) (Upd.tail (Nat.ne_of_gt (l1' _ (.tail _ (.tail _ (.head _))))) (Upd.tail hU2.symm (Upd.tail hU1.symm (Upd.head hU)))))) ?_ (by simp [toldOf]; unfold sizeLine; omega)))
  all_goals (intro h8 F8 N8)
  all_goals (clear Fn Nn)
  all_goals k_extra "m:steps"
  · rw [told_push (r := ⟨T', x, (md, t2), false, s.toks⟩)] at N8
    refine next _ _ ⟨T', x, (md, t2), false, s.toks⟩ F8 (fun p hp => N8 p ?_) lz.2.2.2.2 (by rw [he]; rfl)
    rcases List.mem_cons.mp hp with rfl | hp
    · exact .tail _ (.tail _ (.tail _ (.tail _ (.tail _ (.head _)))))
    rcases List.mem_cons.mp hp with rfl | hp
    · exact .head _
    · exact .tail _ (.tail _ (.tail _ (.tail _ (.tail _ (.tail _ hp)))))
  · rw [told_push (r := ⟨T', x, (md, t2), true, s.toks⟩)] at N8
    refine next _ _ ⟨T', x, (md, t2), true, s.toks⟩ F8 (fun p hp => N8 p ?_) lz.2.2.2.2 (by rw [he]; rfl)
    rcases List.mem_cons.mp hp with rfl | hp
    · exact .tail _ (.tail _ (.tail _ (.tail _ (.tail _ (.head _)))))
    rcases List.mem_cons.mp hp with rfl | hp
    · exact .head _
    · exact .tail _ (.tail _ (.tail _ (.tail _ (.tail _ (.tail _ hp)))))
end

end

-- text: Due5
section
open PyProof.Rows.LCg (NsObj lst)
noncomputable def dueAns (mods pls : List (Str × Tok)) (least md : Str) : Bool := !((mods.filter fun p => abv md p.1) ++ (pls.filter fun p => blw least p.1)).isEmpty
/-- the least of the paths of the module of x -/
noncomputable def LeastOf (ps : List (Str × Tok)) (x lst : Str) : Prop := lst ∈ (ps.filter fun p => decide (lawMod p.1 = lawMod x)).map (·.1) ∧ ∀ a ∈ (ps.filter fun p => decide (lawMod p.1 = lawMod x)).map (·.1), sless a lst = false
theorem notin3 {p a b c : Addr} (h : p ∉ [a, b, c]) : p ≠ a ∧ p ≠ b ∧ p ≠ c := by
  simp only [List.mem_cons, not_or] at h
  exact ⟨h.1, h.2.1, h.2.2.1⟩
theorem in3 {p a b c : Addr} (h1 : p ≠ a) (h2 : p ≠ b) (h3 : p ≠ c) : p ∉ [a, b, c] := by simp [h1, h2, h3]
section
variable {w : World} {mean : ExcName → Option Value} {mg mb : Str → Option Value} {h₀ base : Heap} {L fa : Addr} {cd : Value} {m : Str → Option Value} {s : Shared} {Q : Flow → Shared → Prop} {E : Value → Shared → Prop}
theorem due_turn (B : Below callerA base [] h₀) (F : Fr h₀ L s.heap m) (T : Top q0 (looseW q0 loose0) mean mg mb h₀) {rest : Led} {U D O M P : Addr} {ps os mods pls : List (Str × Tok)} {rows : List PRow} {a0 nu np no nm nl : Nat} {o2 o3 : Obj}
    (N : News h₀ L s.heap ((U, listOf (toldOf a0 rows).toArray nu) :: (L + 1 + 1, o2) :: (L + 1 + 1 + 1, o3) :: (D, listOf (ps.map strO.val).toArray np) :: (O, listOf (os.map strO.val).toArray no) :: (M, listOf (mods.map strO.val).toArray nm) :: (P, listOf (pls.map strO.val).toArray nl) :: rest))
    (ho2 : ∃ v, o2.data = .cell v) (ho3 : ∃ v, o3.data = .cell v) (hfix : ∀ p ∈ [D, O, M, P], p ∉ [U, L + 1 + 1, L + 1 + 1 + 1]) (hrest : ∀ p ∈ rest, p.1 ∉ [U, L + 1 + 1, L + 1 + 1 + 1]) (hU2 : U ≠ L + 1 + 1) (hU3 : U ≠ L + 1 + 1 + 1)
    (hos : os.map (·.1) = ps.map (fun p => lawMod p.1)) (hlen : ps.length < 60) (hps : ∀ p ∈ ps, p.1.length < 1000 ∧ (lawMod p.1).length < 1000) (hml : mods.length < 10) (hpl : pls.length < 10) (hm1 : ∀ p ∈ mods, p.1.length < 1000) (hp1 : ∀ p ∈ pls, p.1.length < 1000) (ha0 : a0 < 100) (hr : rows.length < 100)
    {x : Str × Tok} (hx : x.1 ∈ ps.map (·.1)) (mX : m (Str.ofString "path") = some (.str x.1 x.2)) (mP : m (Str.ofString "paths") = some (.ref D)) (mO : m (Str.ofString "owners") = some (.ref O)) (mM : m (Str.ofString "modules") = some (.ref M)) (mL : m (Str.ofString "plain") = some (.ref P)) (mU : m (Str.ofString "due") = some (.ref U))
    (next : ∀ (h' : Heap) (tk' : Nat) (m' : Str → Option Value) (o2' o3' : Obj) (r : PRow) (lst : Str), Fr h₀ L h' m' →
      News h₀ L h' ((U, listOf (toldOf a0 (rows ++ [r])).toArray (nu + 1)) :: (L + 1 + 1, o2') :: (L + 1 + 1 + 1, o3') :: (D, listOf (ps.map strO.val).toArray np) :: (O, listOf (os.map strO.val).toArray no) :: (M, listOf (mods.map strO.val).toArray nm) :: (P, listOf (pls.map strO.val).toArray nl) :: r.ent :: rest) →
      (∃ v, o2'.data = .cell v) → (∃ v, o3'.data = .cell v) → r.T ∉ [U, L + 1 + 1, L + 1 + 1 + 1] → AllLt r.T rest → LeastOf ps x.1 lst → r.plain = (x.1, lawMod x.1, dueAns mods pls lst (lawMod x.1)) →
      (∀ z, z ≠ Str.ofString "above" → z ≠ Str.ofString "below" → m' z = m z) → Q .next { s with heap := h', toks := tk' }) :
    (hd.heap_1 w.params).In h₀ → dueWp w L fa cd 0 Q E s := by
  intro X
  obtain ⟨DU, D2, D3⟩ := notin3 (hfix D (.head _))
  obtain ⟨OU, O2, O3⟩ := notin3 (hfix O (.tail _ (.head _)))
  obtain ⟨MU, M2, M3⟩ := notin3 (hfix M (.tail _ (.tail _ (.head _))))
  obtain ⟨PU, P2, P3⟩ := notin3 (hfix P (.tail _ (.tail _ (.tail _ (.head _)))))
  obtain ⟨y, hy, hyx⟩ := List.mem_map.mp hx
  have off2 : ∀ p ∈ (D, listOf (ps.map strO.val).toArray np) :: (O, listOf (os.map strO.val).toArray no) :: (U, listOf (toldOf a0 rows).toArray nu) :: (M, listOf (mods.map strO.val).toArray nm) :: (P, listOf (pls.map strO.val).toArray nl) :: rest, p.1 ≠ L + 1 + 1 :=
    List.forall_mem_cons.mpr ⟨D2, List.forall_mem_cons.mpr ⟨O2, List.forall_mem_cons.mpr ⟨hU2, List.forall_mem_cons.mpr ⟨M2, List.forall_mem_cons.mpr ⟨P2, fun p hp => (notin3 (hrest p hp)).2.1⟩⟩⟩⟩⟩
  have off3 : ∀ p ∈ (D, listOf (ps.map strO.val).toArray np) :: (O, listOf (os.map strO.val).toArray no) :: (U, listOf (toldOf a0 rows).toArray nu) :: (M, listOf (mods.map strO.val).toArray nm) :: (P, listOf (pls.map strO.val).toArray nl) :: rest, p.1 ≠ L + 1 + 1 + 1 :=
    List.forall_mem_cons.mpr ⟨D3, List.forall_mem_cons.mpr ⟨O3, List.forall_mem_cons.mpr ⟨hU3, List.forall_mem_cons.mpr ⟨M3, List.forall_mem_cons.mpr ⟨P3, fun p hp => (notin3 (hrest p hp)).2.2⟩⟩⟩⟩⟩
  refine due1 B F T (news_swap2 [_] [_, _, _, _] N) ho2 ho3 off2 off3 hos hlen (fun p hp => (hps p hp).1) hx mX mP mO (fun h1 tk1 o2' o3' t2 t3 lst F1 N1 d2 d3 hin hmin => ?_) X
  obtain ⟨z, hz, hzl⟩ := List.mem_map.mp hin
  refine due2 (s := { s with heap := h1, toks := tk1 }) B F1 T (news_swap2 [_, _, _, _] [_] N1) (.tail _ (.head _)) d2 (.tail _ (.tail _ (.tail _ (.tail _ (.tail _ (.head _)))))) mM hml (hyx ▸ (hps y hy).2) hm1 (fun h2 tk2 m2 A' F2 N2 l2 mA hm2 => ?_) X
  refine due3 (s := { s with heap := h2, toks := tk2 }) B F2 T N2 (.tail _ (.tail _ (.tail _ (.head _)))) d3 (.tail _ (.tail _ (.tail _ (.tail _ (.tail _ (.tail _ (.tail _ (.head _)))))))) ((hm2 _ (by decide)).trans mL) hpl (hzl ▸ (hps z (List.mem_filter.mp hz).1).1) hp1 (fun h3 tk3 m3 B' F3 N3 l3 mB hm3 => ?_) X
  have ek : ∀ z, z ≠ Str.ofString "above" → z ≠ Str.ofString "below" → m3 z = m z := fun z z1 z2 => (hm3 z z2).trans (hm2 z z1)
  refine due4 (s := { s with heap := h3, toks := tk3 }) (x := x) B F3 T N3 (Nat.ne_of_lt l2.1) (Nat.ne_of_lt l3.2.1) (List.forall_mem_cons.mpr ⟨hU2.symm, List.forall_mem_cons.mpr ⟨hU3.symm, List.forall_mem_cons.mpr ⟨DU, List.forall_mem_cons.mpr ⟨OU, List.forall_mem_cons.mpr ⟨MU, List.forall_mem_cons.mpr ⟨PU, fun p hp => (notin3 (hrest p hp)).1⟩⟩⟩⟩⟩⟩) (.head _) d2
    ((ek _ (by decide) (by decide)).trans mX) ((hm3 _ (by decide)).trans mA) mB ((ek _ (by decide) (by decide)).trans mU) (Nat.lt_of_le_of_lt (List.length_filter_le _ _) (by omega)) (Nat.lt_of_le_of_lt (List.length_filter_le _ _) (by omega)) ha0 hr (fun h4 tk4 r F4 N4 l4 hp4 => ?_) X
  exact next h4 tk4 m3 o2' o3' r lst F4 (news_swap2 [_, _, _, _, _, _] [_] (news_swap2 [_, _] [_, _, _, _, _, _] N4)) ⟨_, d2⟩ ⟨_, d3⟩ (in3 (Nat.ne_of_gt l4.1) (Nat.ne_of_gt l4.2.1) (Nat.ne_of_gt l4.2.2.1)) l4.2.2.2.2.2.2.2 ⟨hin, hmin⟩ hp4 ek
end

end

-- text: H1
section
variable {κ : Type} [Inhabited κ] {lt : κ → κ → Bool}
theorem get!_set (xs : List κ) (p i : Nat) (v : κ) (hp : p < xs.length) : (xs.set p v)[i]! = if i = p then v else xs[i]! := by
  by_cases h : i = p
  · subst h; simp [hp]
  · rw [if_neg h]
    by_cases h2 : i < xs.length
    · simp [h2, Ne.symm h]
    · simp [h2]
/-- from st on each child is not less than its parent -/
noncomputable def HF (lt : κ → κ → Bool) (xs : List κ) (st : Nat) : Prop := ∀ i, 0 < i → st ≤ (i - 1) / 2 → i < xs.length → lt xs[i]! xs[(i - 1) / 2]! = false
inductive UnderN (st : Nat) : Nat → Prop
  | refl : UnderN st st
  | left {p : Nat} : UnderN st p → UnderN st (2 * p + 1)
  | right {p : Nat} : UnderN st p → UnderN st (2 * p + 1 + 1)
theorem UnderN.le {st p : Nat} (h : UnderN st p) : st ≤ p := by
  induction h <;> lia
theorem UnderN.up {st p : Nat} (h : UnderN st p) (hp : st < p) : UnderN st ((p - 1) / 2) := by
  cases h with
  | refl => lia
  | @left q h => rw [show (2 * q + 1 - 1) / 2 = q by lia]; exact h
  | @right q h => rw [show (2 * q + 1 + 1 - 1) / 2 = q by lia]; exact h
theorem set_swap {xs : List κ} {i j : Nat} {y : κ} (hi : i < xs.length) (hj : j < xs.length) (hij : i ≠ j) : ((xs.set i xs[j]!).set j y).Perm (xs.set i y) := by
  have h := List.set_set_perm (as := xs.set i y) (i := i) (j := j) (by simpa using hi) (by simpa using hj)
  have e1 : (xs.set i y)[j]'(by simpa using hj) = xs[j]! := by
    rw [List.getElem_set_ne hij]; simp [hj]
  have e2 : (xs.set i y)[i]'(by simpa using hi) = y := by simp
  rw [e1, e2, List.set_set] at h
  exact h
theorem sdown_perm {new : κ} {st : Nat} : ∀ (pos : Nat) (xs : List κ), pos < xs.length → (sdown lt xs new st pos).Perm (xs.set pos new) := by
  intro pos
  induction pos using Nat.strongRecOn with
  | ind pos ih =>
    intro xs hp
    unfold sdown
    split
    · rename_i h
      split
      · exact (ih _ (by lia) _ (by rw [List.length_set]; lia)).trans (set_swap hp (by lia) (by lia))
      · exact List.Perm.refl _
    · exact List.Perm.refl _
theorem sdown_heap (W : Wk lt) {new : κ} {st : Nat} : ∀ (pos : Nat) (xs : List κ), pos < xs.length → UnderN st pos →
    (∀ i, 0 < i → st ≤ (i - 1) / 2 → i < xs.length → i ≠ pos → lt (xs.set pos new)[i]! (xs.set pos new)[(i - 1) / 2]! = false) →
    (∀ i, 0 < i → i < xs.length → (i - 1) / 2 = pos → st < pos → lt xs[i]! xs[(pos - 1) / 2]! = false) → HF lt (sdown lt xs new st pos) st := by
  intro pos
  induction pos using Nat.strongRecOn with
  | ind pos ih =>
    intro xs hp hs h1 h2
    unfold sdown
    split
    · rename_i h
      have hpar : (pos - 1) / 2 < pos := by lia
      have hpl : (pos - 1) / 2 < xs.length := by lia
      split
      · rename_i hl
        have hsu := hs.up h
        refine ih _ hpar _ (by rw [List.length_set]; exact hpl) hsu ?_ ?_
        · intro i i0 ist il ine
          rw [List.length_set] at il
          have hpl' : (pos - 1) / 2 < (xs.set pos xs[(pos - 1) / 2]!).length := by rw [List.length_set]; exact hpl
          rw [get!_set _ _ i _ hpl', get!_set _ _ ((i - 1) / 2) _ hpl', if_neg ine, get!_set xs pos i _ hp, get!_set xs pos ((i - 1) / 2) _ hp]
          by_cases e : i = pos
          · subst e
            rw [if_pos rfl, if_pos rfl]
            exact W.asy _ _ hl
          · rw [if_neg e]
            have h3 := h1 i i0 ist il e
            rw [get!_set _ _ _ _ hp, get!_set _ _ _ _ hp, if_neg e] at h3
            by_cases e2 : (i - 1) / 2 = (pos - 1) / 2
            · rw [if_pos e2]
              rw [if_neg (by lia), e2] at h3
              exact W.ntr _ _ _ (W.asy _ _ hl) h3
            · rw [if_neg e2]
              by_cases e3 : (i - 1) / 2 = pos
              · rw [if_pos e3]
                exact h2 i i0 il e3 h
              · rw [if_neg e3]
                rw [if_neg e3] at h3
                exact h3
        · intro i i0 il ipar hst
          rw [List.length_set] at il
          rw [get!_set _ _ _ _ hp, get!_set _ _ _ _ hp, if_neg (by lia : ((pos - 1) / 2 - 1) / 2 ≠ pos)]
          have hgp : st ≤ ((pos - 1) / 2 - 1) / 2 := (hsu.up hst).le
          have h3 := h1 ((pos - 1) / 2) (by lia) hgp hpl (by lia)
          rw [get!_set _ _ _ _ hp, get!_set _ _ _ _ hp, if_neg (by lia), if_neg (by lia)] at h3
          by_cases e : i = pos
          · rw [if_pos e]
            exact h3
          · rw [if_neg e]
            have h4 := h1 i i0 (by lia) il e
            rw [get!_set _ _ _ _ hp, get!_set _ _ _ _ hp, if_neg e, if_neg (by lia), ipar] at h4
            exact W.ntr _ _ _ h3 h4
      · rename_i hl
        intro i i0 ist il
        rw [List.length_set] at il
        by_cases e : i = pos
        · subst e
          rw [get!_set _ _ _ _ hp, get!_set _ _ _ _ hp, if_pos rfl, if_neg (by lia)]
          exact Bool.eq_false_iff.mpr hl
        · exact h1 i i0 ist il e
    · rename_i h
      have e : pos = st := by have := hs.le; lia
      intro i i0 ist il
      rw [List.length_set] at il
      exact h1 i i0 ist il (by lia)
theorem bub_perm {new : κ} : ∀ (k : Nat) (xs : List κ) (p : Nat), p < xs.length → (bub lt k xs p).2 < xs.length ∧ ((bub lt k xs p).1.set (bub lt k xs p).2 new).Perm (xs.set p new)
  | 0, xs, p, hp => ⟨hp, List.Perm.refl _⟩
  | k + 1, xs, p, hp => by
    unfold bub
    split
    · rename_i h
      have hc := ch_lt (lt := lt) h
      have ih := bub_perm (new := new) k (xs.set p xs[ch lt xs p]!) (ch lt xs p) (by rw [List.length_set]; exact hc.1)
      rw [List.length_set] at ih
      exact ⟨ih.1, ih.2.trans (set_swap hp hc.1 (by lia))⟩
    · exact ⟨hp, List.Perm.refl _⟩
theorem ch_le (W : Wk lt) {xs : List κ} {p i : Nat} (h : 2 * p + 1 < xs.length) (i0 : 0 < i) (hi : i < xs.length) (hip : (i - 1) / 2 = p) : lt xs[i]! xs[ch lt xs p]! = false := by
  have hi2 : i = 2 * p + 1 ∨ i = 2 * p + 1 + 1 := by lia
  unfold ch
  split
  · rename_i hc
    rcases hi2 with rfl | rfl
    · exact hc.2
    · exact W.irr _
  · rename_i hc
    rcases hi2 with rfl | rfl
    · exact W.irr _
    · cases h3 : lt xs[2 * p + 1]! xs[2 * p + 1 + 1]! with
      | true => exact W.asy _ _ h3
      | false => exact absurd ⟨hi, h3⟩ hc
theorem ch_par {xs : List κ} {p : Nat} : (ch lt xs p - 1) / 2 = p := by
  unfold ch; split <;> lia
theorem ch_sub {xs : List κ} {st p : Nat} (h : UnderN st p) : UnderN st (ch lt xs p) := by
  unfold ch; split
  · exact h.right
  · exact h.left
/-- one child moved up -/
theorem up_heap (W : Wk lt) {xs : List κ} {st p : Nat} (hc : 2 * p + 1 < xs.length) (h1 : ∀ i, 0 < i → st ≤ (i - 1) / 2 → i < xs.length → (i - 1) / 2 ≠ p → lt xs[i]! xs[(i - 1) / 2]! = false)
    (h2 : ∀ i, 0 < i → i < xs.length → (i - 1) / 2 = p → st < p → lt xs[i]! xs[(p - 1) / 2]! = false) (hs : UnderN st p) : HF lt (xs.set p xs[ch lt xs p]!) st := by
  intro i i0 ist il
  rw [List.length_set] at il
  have hp : p < xs.length := by lia
  rw [get!_set _ _ _ _ hp, get!_set _ _ _ _ hp]
  by_cases e : i = p
  · subst e
    rw [if_pos rfl, if_neg (by lia)]
    have hst : st < i := by
      rcases Nat.lt_or_ge st i with h | h
      · exact h
      · have := hs.le; lia
    exact h2 _ (by have := (ch_lt (lt := lt) hc).2; lia) (ch_lt hc).1 ch_par hst
  · rw [if_neg e]
    by_cases e2 : (i - 1) / 2 = p
    · rw [if_pos e2]
      exact ch_le W hc i0 il e2
    · rw [if_neg e2]
      exact h1 i i0 ist il e2
theorem bub_heap1 (W : Wk lt) {st : Nat} : ∀ (k : Nat) (xs : List κ) (p : Nat), p < xs.length → xs.length ≤ k + p → UnderN st p → HF lt xs st → HF lt (bub lt k xs p).1 st ∧ UnderN st (bub lt k xs p).2 ∧ ¬ 2 * (bub lt k xs p).2 + 1 < xs.length
  | 0, xs, p, hp, hk, _, _ => by lia
  | k + 1, xs, p, hp, hk, hs, hh => by
    unfold bub
    split
    · rename_i h
      have hc := ch_lt (lt := lt) h
      have h1 := up_heap W h (fun i i0 ist il _ => hh i i0 ist il) (fun i i0 il ip hst => by
        have a := hh i i0 (by lia) il
        have b := hh p (by lia) (hs.up hst).le hp
        rw [ip] at a
        exact W.ntr _ _ _ b a) hs
      have ih := bub_heap1 W k (xs.set p xs[ch lt xs p]!) (ch lt xs p) (by rw [List.length_set]; exact hc.1) (by rw [List.length_set]; lia) (ch_sub hs) h1
      rw [List.length_set] at ih
      exact ih
    · rename_i h
      exact ⟨hh, hs, h⟩
theorem sup_perm (xs : List κ) (p : Nat) (hp : p < xs.length) : (sup lt xs p).Perm xs := by
  have hb := bub_perm (lt := lt) (new := xs[p]!) xs.length xs p hp
  unfold sup
  have hl : ((bub lt xs.length xs p).1).length = xs.length := by
    have := hb.2.length_eq
    simpa using this
  refine (sdown_perm _ _ (by rw [List.length_set, hl]; exact hb.1)).trans ?_
  rw [List.set_set]
  refine hb.2.trans ?_
  have e : xs.set p xs[p]! = xs := by simp [hp]
  rw [e]
theorem sup_heap (W : Wk lt) {xs : List κ} {st : Nat} (hp : st < xs.length) (hh : HF lt xs (st + 1)) : HF lt (sup lt xs st) st := by
  have hb := bub_perm (lt := lt) (new := xs[st]!) xs.length xs st hp
  unfold sup
  have hl : ((bub lt xs.length xs st).1).length = xs.length := by
    have := hb.2.length_eq
    simpa using this
  have key : (∀ i, 0 < i → st ≤ (i - 1) / 2 → i < xs.length → (i - 1) / 2 ≠ (bub lt xs.length xs st).2 → lt (bub lt xs.length xs st).1[i]! (bub lt xs.length xs st).1[(i - 1) / 2]! = false) ∧ UnderN st (bub lt xs.length xs st).2 ∧ ¬ 2 * (bub lt xs.length xs st).2 + 1 < xs.length := by
    by_cases h : 2 * st + 1 < xs.length
    · obtain ⟨k, hk⟩ : ∃ k, xs.length = k + 1 := ⟨xs.length - 1, by lia⟩
      have e : bub lt xs.length xs st = bub lt k (xs.set st xs[ch lt xs st]!) (ch lt xs st) := by
        conv => lhs; arg 2; rw [hk]
        show (if 2 * st + 1 < xs.length then _ else _) = _
        rw [if_pos h]
      have hc := ch_lt (lt := lt) h
      have h1 := up_heap W h (st := st) (p := st) (fun i i0 ist il ine => hh i i0 (by lia) il) (fun i i0 il ip hst => absurd hst (Nat.lt_irrefl _)) .refl
      have h2 := bub_heap1 W k (xs.set st xs[ch lt xs st]!) (ch lt xs st) (by rw [List.length_set]; exact hc.1) (by rw [List.length_set]; lia) (ch_sub .refl) h1
      rw [← e, List.length_set] at h2
      exact ⟨fun i i0 ist il _ => h2.1 i i0 ist (by rw [hl]; exact il), h2.2⟩
    · have e : bub lt xs.length xs st = (xs, st) := by
        cases xs.length with
        | zero => rfl
        | succ k => simp only [bub, if_neg h]
      rw [e]
      exact ⟨fun i i0 ist il ine => hh i i0 (by dsimp only at ine; lia) il, .refl, h⟩
  refine sdown_heap W _ _ (by rw [List.length_set, hl]; exact hb.1) key.2.1 ?_ ?_
  · intro i i0 ist il ine
    rw [List.length_set, hl] at il
    rw [List.set_set, get!_set _ _ _ _ (by rw [hl]; exact hb.1), get!_set _ _ _ _ (by rw [hl]; exact hb.1), if_neg ine, if_neg (by have := key.2.2; lia)]
    exact key.1 i i0 ist il (by have := key.2.2; lia)
  · intro i i0 il ip _
    rw [List.length_set, hl] at il
    have := key.2.2
    lia
theorem hfy_heap (W : Wk lt) : ∀ (k : Nat) (xs : List κ), k ≤ xs.length → HF lt xs k → HF lt (hfy lt k xs) 0 ∧ (hfy lt k xs).Perm xs
  | 0, xs, _, h => ⟨h, List.Perm.refl _⟩
  | k + 1, xs, hk, h => by
    unfold hfy
    have hp := sup_perm (lt := lt) xs k (by lia)
    have ih := hfy_heap W k (sup lt xs k) (by rw [hp.length_eq]; lia) (sup_heap W (by lia) h)
    exact ⟨ih.1, ih.2.trans hp⟩
theorem hfy_all (W : Wk lt) (xs : List κ) : HF lt (hfy lt (xs.length / 2) xs) 0 ∧ (hfy lt (xs.length / 2) xs).Perm xs := hfy_heap W _ _ (by lia) fun i i0 ist il => by lia
theorem push_heap (W : Wk lt) {xs : List κ} {x : κ} (h : HF lt xs 0) : HF lt (sdown lt (xs ++ [x]) x 0 xs.length) 0 ∧ (sdown lt (xs ++ [x]) x 0 xs.length).Perm (xs ++ [x]) := by
  have hl : xs.length < (xs ++ [x]).length := by simp
  have e : (xs ++ [x]).set xs.length x = xs ++ [x] := by simp
  have sub0 : ∀ p, UnderN 0 p := fun p => by
    induction p using Nat.strongRecOn with
    | ind p ih =>
      rcases Nat.eq_zero_or_pos p with rfl | h0
      · exact .refl
      · have := ih ((p - 1) / 2) (by lia)
        have h2 : p = 2 * ((p - 1) / 2) + 1 ∨ p = 2 * ((p - 1) / 2) + 1 + 1 := by lia
        rcases h2 with h2 | h2
        · rw [h2]; exact this.left
        · rw [h2]; exact this.right
  constructor
  · refine sdown_heap W _ _ hl (sub0 _) ?_ ?_
    · intro i i0 _ il ine
      rw [List.length_append, List.length_singleton] at il
      rw [e]
      have g : ∀ j, j < xs.length → (xs ++ [x])[j]! = xs[j]! := fun j hj => by
        rw [List.getElem!_eq_getElem?_getD, List.getElem!_eq_getElem?_getD, List.getElem?_append_left hj]
      rw [g i (by lia), g _ (by lia)]
      exact h i i0 (Nat.zero_le _) (by lia)
    · intro i i0 il ip _
      rw [List.length_append, List.length_singleton] at il
      lia
  · have := sdown_perm (lt := lt) (new := x) (st := 0) xs.length (xs ++ [x]) hl
    rwa [e] at this
theorem root_least (W : Wk lt) {xs : List κ} (h : HF lt xs 0) : ∀ i, i < xs.length → lt xs[i]! xs[0]! = false := by
  intro i
  induction i using Nat.strongRecOn with
  | ind i ih =>
    intro hi
    rcases Nat.eq_zero_or_pos i with rfl | h0
    · exact W.irr _
    · exact W.ntr _ _ _ (ih _ (by lia) (by lia)) (h i h0 (Nat.zero_le _) hi)
theorem root_mem (W : Wk lt) {xs : List κ} (h : HF lt xs 0) : ∀ x ∈ xs, lt x xs[0]! = false := fun x hx => by
  obtain ⟨i, hi, rfl⟩ := List.getElem_of_mem hx
  have := root_least W h i hi
  simpa [hi] using this
theorem repl_heap (W : Wk lt) {xs : List κ} {x : κ} (h : HF lt xs 0) (h0 : 0 < xs.length) : HF lt (sup lt (xs.set 0 x) 0) 0 ∧ (sup lt (xs.set 0 x) 0).Perm (xs.set 0 x) := by
  refine ⟨sup_heap W (by rw [List.length_set]; exact h0) ?_, sup_perm _ _ (by rw [List.length_set]; exact h0)⟩
  intro i i0 ist il
  rw [List.length_set] at il
  rw [get!_set _ _ _ _ h0, get!_set _ _ _ _ h0, if_neg (by lia), if_neg (by lia)]
  exact h i i0 (Nat.zero_le _) il
end

-- text: H2
theorem wk_str : Wk strO.lt := ⟨fun a => sless_irr _, fun a b h => Bool.eq_false_iff.mpr fun h2 => by
    have h3 := sless_tr (a := a.1) (b := b.1) (c := a.1) h h2
    rw [sless_irr] at h3; exact Bool.noConfusion h3, fun a b c h1 h2 => not_less_tr h1 h2⟩
theorem hf_pre {κ : Type} [Inhabited κ] {lt : κ → κ → Bool} {xs ys : List κ} (h : HF lt (xs ++ ys) 0) : HF lt xs 0 := fun i i0 ist il => by
  have g : ∀ j, j < xs.length → (xs ++ ys)[j]! = xs[j]! := fun j hj => by
    rw [List.getElem!_eq_getElem?_getD, List.getElem!_eq_getElem?_getD, List.getElem?_append_left hj]
  have h1 := h i i0 ist (by rw [List.length_append]; lia)
  rw [g i il, g _ (by lia)] at h1
  exact h1
theorem hpop_heap {ys : List (Str × Tok)} (h : HF strO.lt ys 0) (h0 : 0 < ys.length) : HF strO.lt (hpop ys) 0 ∧ (ys.headD default :: hpop ys).Perm ys := by
  rcases List.eq_nil_or_concat ys with rfl | ⟨dl, z, rfl⟩
  · cases h0
  · cases dl with
    | nil =>
      refine ⟨fun i i0 _ il => ?_, ?_⟩
      · exact absurd il (by simp [hpop])
      · simp [hpop]
    | cons y t =>
      have e : hpop ((y :: t) ++ [z]) = sup strO.lt ((y :: t).set 0 z) 0 := by
        unfold hpop
        rw [List.dropLast_concat]
        have e2 : ((y :: t) ++ [z]).getLastD default = z := by rw [List.getLastD_eq_getLast?, List.getLast?_concat]; rfl
        rw [e2]
        rfl
      rw [List.concat_eq_append] at *
      rw [e]
      have hr := repl_heap wk_str (x := z) (hf_pre h) (Nat.succ_pos _)
      refine ⟨hr.1, ?_⟩
      show (y :: _).Perm (y :: (t ++ [z]))
      refine List.Perm.cons _ (hr.2.trans ?_)
      show (z :: t).Perm (t ++ [z])
      exact (List.perm_append_singleton z t).symm
/-- the paths in the order of the pops -/
noncomputable def outs : Nat → List (Str × Tok) → List (Str × Tok)
  | 0, _ => []
  | n + 1, ys => ys.headD default :: outs n (hpop ys)
theorem outs_sorted : ∀ (n : Nat) (ys : List (Str × Tok)), ys.length = n → HF strO.lt ys 0 → (outs n ys).Perm ys ∧ (outs n ys).Pairwise (fun a b => sless b.1 a.1 = false) ∧ popHeap n ys = []
  | 0, ys, hl, _ => by
    have := List.length_eq_zero_iff.mp hl
    subst this
    exact ⟨List.Perm.refl _, List.Pairwise.nil, rfl⟩
  | n + 1, ys, hl, h => by
    have h0 : 0 < ys.length := by lia
    have hp := hpop_heap h h0
    have ih := outs_sorted n (hpop ys) (by rw [hpop_length]; lia) hp.1
    refine ⟨(List.Perm.cons _ ih.1).trans hp.2, List.pairwise_cons.mpr ⟨fun b hb => ?_, ih.2.1⟩, ih.2.2⟩
    have := root_mem wk_str h b (hpop_sub h0 b (ih.1.mem_iff.mp hb))
    rw [head_get h0] at this
    exact this
/-- the rows told of the paths in a row -/
noncomputable def askS (ans : Str → Str → Bool) (kf : Str → Str) : Cache → List Str → List (Str × Str × Bool)
  | _, [] => []
  | C, p :: r => (p, kf p, (ask ans C p (kf p)).1) :: askS ans kf (ask ans C p (kf p)).2 r
theorem popRows_outs (ans : Str → Str → Bool) (kf : Str → Str) : ∀ (n : Nat) (ys : List (Str × Tok)) (C : Cache), popRows ans kf n ys C = askS ans kf C ((outs n ys).map (·.1))
  | 0, _, _ => rfl
  | n + 1, ys, C => by
    show _ :: popRows ans kf n (hpop ys) _ = _
    rw [popRows_outs ans kf n]
    rfl
theorem le_anti {a b : Str} (h1 : sless b a = false) (h2 : sless a b = false) : a = b := by
  by_cases e : a = b
  · exact e
  · rcases sless_tot e with h | h
    · rw [h] at h2; cases h2
    · rw [h] at h1; cases h1
theorem sorted_uniq {a b : List Str} (hp : a.Perm b) (ha : a.Pairwise (fun x y => sless y x = false)) (hb : b.Pairwise (fun x y => sless y x = false)) : a = b :=
  List.Perm.eq_of_pairwise (fun x y _ _ h1 h2 => le_anti h1 h2) ha hb hp
/-- the first path of the module of z -/
noncomputable def firstOf (kf : Str → Str) (zs : List Str) (z : Str) : Str := (zs.find? fun y => decide (kf y = kf z)).getD z
theorem askS_first (ans : Str → Str → Bool) (kf : Str → Str) (s0 : Str) (zs : List Str) : ∀ (post pre : List Str) (C : Cache), zs = pre ++ post → (∀ z ∈ zs, kf z ≠ s0) →
    (∀ z ∈ zs, C.at (kf z) = (pre.find? fun y => decide (kf y = kf z)).map fun y => ans y (kf z)) → askS ans kf C post = post.map fun z => (z, kf z, ans (firstOf kf zs z) (kf z))
  | [], _, _, _, _, _ => rfl
  | p :: post, pre, C, e, hs, hC => by
    have hp : p ∈ zs := by rw [e]; exact List.mem_append_right _ (.head _)
    have hCp := hC p hp
    have hfirst : (ask ans C p (kf p)).1 = ans (firstOf kf zs p) (kf p) ∧ (∀ z ∈ zs, (ask ans C p (kf p)).2.at (kf z) = ((pre ++ [p]).find? fun y => decide (kf y = kf z)).map fun y => ans y (kf z)) := by
      cases hf : pre.find? fun y => decide (kf y = kf p) with
      | some y =>
        rw [hf] at hCp
        have ea : ask ans C p (kf p) = (ans y (kf p), C) := by unfold ask; rw [hCp]; rfl
        rw [ea]
        refine ⟨?_, fun z hz => ?_⟩
        · unfold firstOf
          rw [e, List.find?_append, hf]; rfl
        · rw [hC z hz, List.find?_append]
          by_cases hk : kf z = kf p
          · rw [hk, hf]; rfl
          · have : [p].find? (fun y => decide (kf y = kf z)) = none := by
              rw [List.find?_cons_of_neg (by simpa using Ne.symm hk)]; rfl
            rw [this, Option.or_none]
      | none =>
        rw [hf] at hCp
        have ea : ask ans C p (kf p) = (ans p (kf p), C ++ [(kf p, ans p (kf p))]) := by unfold ask; rw [hCp]; rfl
        rw [ea]
        have hone : [p].find? (fun y => decide (kf y = kf p)) = some p := List.find?_cons_of_pos (by simp)
        refine ⟨?_, fun z hz => ?_⟩
        · unfold firstOf
          rw [e, List.find?_append, hf, List.find?_cons_of_pos (by simp)]; rfl
        · have hz2 := hC z hz
          rw [List.find?_append]
          unfold Cache.at at hz2 ⊢
          rw [List.find?_append]
          by_cases hk : kf z = kf p
          · rw [hk] at hz2 ⊢
            rw [hf] at hz2 ⊢
            rw [Option.map_none, Option.map_eq_none_iff] at hz2
            rw [hz2, Option.none_or, Option.none_or, hone, List.find?_cons_of_pos (by simp)]
            rfl
          · have h1 : [p].find? (fun y => decide (kf y = kf z)) = none := by
              rw [List.find?_cons_of_neg (by simpa using Ne.symm hk)]; rfl
            have h2 : [(kf p, ans p (kf p))].find? (fun e => decide (e.1 = kf z)) = none := by
              rw [List.find?_cons_of_neg (by simpa using Ne.symm hk)]; rfl
            rw [h1, h2, Option.or_none, Option.or_none]
            exact hz2
    have ih := askS_first ans kf s0 zs post (pre ++ [p]) (ask ans C p (kf p)).2 (by rw [e, List.append_assoc]; rfl) hs hfirst.2
    show (p, kf p, (ask ans C p (kf p)).1) :: askS ans kf (ask ans C p (kf p)).2 post = _
    rw [ih, hfirst.1]
    rfl
theorem firstOf_least {kf : Str → Str} {zs : List Str} (hs : zs.Pairwise fun a b => sless b a = false) {z : Str} (hz : z ∈ zs) {y : Str} (hy : y ∈ zs) (hk : kf y = kf z) (hmin : ∀ a ∈ zs, kf a = kf z → sless a y = false) : firstOf kf zs z = y := by
  unfold firstOf
  cases hf : zs.find? fun y => decide (kf y = kf z) with
  | none =>
    rw [List.find?_eq_none] at hf
    exact absurd (by simp) (hf z hz)
  | some x =>
    obtain ⟨h1, as, bs, rfl, h2⟩ := List.find?_eq_some_iff_append.mp hf
    have hx : kf x = kf z := of_decide_eq_true h1
    have a1 := hmin x (by simp) hx
    show x = y
    rcases List.mem_append.mp hy with hm | hm
    · have := h2 y hm
      rw [Bool.not_eq_true', decide_eq_false_iff_not] at this
      exact absurd hk this
    · rcases List.mem_cons.mp hm with rfl | hm
      · rfl
      · exact le_anti (List.rel_of_pairwise_cons (List.pairwise_append.mp hs).2.1 hm) a1
/-- what the pops tell -/
theorem told_rows {ans : Str → Str → Bool} {kf : Str → Str} {hs : List (Str × Tok)} {zs : List Str} {s0 : Str} (hh : HF strO.lt hs 0) (hp : zs.Perm (hs.map (·.1))) (hz : zs.Pairwise fun a b => sless b a = false) (h0 : ∀ z ∈ zs, kf z ≠ s0) :
    popRows ans kf hs.length hs [(s0, true)] = zs.map fun z => (z, kf z, ans (firstOf kf zs z) (kf z)) := by
  have ho := outs_sorted hs.length hs rfl hh
  have e : (outs hs.length hs).map (·.1) = zs := sorted_uniq ((ho.1.map _).trans hp.symm) (List.pairwise_map.mpr ho.2.1) hz
  rw [popRows_outs, e]
  refine askS_first ans kf s0 zs zs [] _ rfl h0 fun z hz => ?_
  unfold Cache.at
  rw [List.find?_cons_of_neg (by simpa using Ne.symm (h0 z hz))]
  rfl

-- text: H3
/-- which owner stands ahead in the order asked for -/
noncomputable def kless (g : Bool) (a b : Str) : Bool := if g then sless b a else sless a b
theorem kless_irr (g : Bool) (a : Str) : kless g a a = false := by cases g <;> exact sless_irr a
theorem kless_tr {g : Bool} {a b c : Str} (h1 : kless g a b = true) (h2 : kless g b c = true) : kless g a c = true := by
  cases g
  · exact sless_tr (a := a) h1 h2
  · exact sless_tr (a := c) h2 h1
theorem kless_tot {g : Bool} {a b : Str} (h : a ≠ b) : kless g a b = true ∨ kless g b a = true := by
  cases g
  · exact sless_tot h
  · exact (sless_tot h).symm
/-- which place stands ahead -/
noncomputable def Bef (g : Bool) (os : List Str) (i j : Nat) : Prop := kless g (os.getD i default) (os.getD j default) = true ∨ (os.getD i default = os.getD j default ∧ i < j)
section
variable {g : Bool} {os : List Str} {a b c : Nat}
theorem bef_irr : ¬ Bef g os a a := fun h => by
  rcases h with h | h
  · rw [kless_irr] at h; exact Bool.noConfusion h
  · exact Nat.lt_irrefl _ h.2
theorem bef_tr (h1 : Bef g os a b) (h2 : Bef g os b c) : Bef g os a c := by
  rcases h1 with h1 | ⟨e1, h1⟩ <;> rcases h2 with h2 | ⟨e2, h2⟩
  · exact .inl (kless_tr h1 h2)
  · rw [e2] at h1; exact .inl h1
  · rw [← e1] at h2; exact .inl h2
  · exact .inr ⟨e1.trans e2, Nat.lt_trans h1 h2⟩
theorem bef_asy (h1 : Bef g os a b) : ¬ Bef g os b a := fun h2 => bef_irr (bef_tr h1 h2)
theorem bef_tot (h : a ≠ b) : Bef g os a b ∨ Bef g os b a := by
  by_cases e : os.getD a default = os.getD b default
  · rcases Nat.lt_or_gt_of_ne h with h | h
    · exact .inl (.inr ⟨e, h⟩)
    · exact .inr (.inr ⟨e.symm, h⟩)
  · rcases kless_tot (g := g) e with h | h
    · exact .inl (.inl h)
    · exact .inr (.inl h)
end
theorem countP_or {α : Type} {p q : α → Bool} : ∀ {l : List α}, (∀ x ∈ l, p x = true → q x = false) → l.countP (fun x => p x || q x) = l.countP p + l.countP q
  | [], _ => rfl
  | x :: l, h => by
    have ih := countP_or (l := l) fun y hy => h y (.tail _ hy)
    have hx := h x (.head _)
    rw [List.countP_cons, List.countP_cons, List.countP_cons, ih]
    cases hp : p x with
    | true => rw [hx hp]; simp; lia
    | false => cases q x <;> simp <;> lia
theorem countP_getD {α : Type} [Inhabited α] (p : α → Bool) (os : List α) : os.countP p = (List.range os.length).countP fun i => p (os.getD i default) := by
  have e : os = (List.range os.length).map fun i => os.getD i default := by
    apply List.ext_getElem
    · simp
    · intro i h1 h2; simp [h1]
  conv => lhs; rw [e, List.countP_map]
  rfl
noncomputable def befB (g : Bool) (os : List Str) (j i : Nat) : Bool := kless g (os.getD i default) (os.getD j default) || (decide (os.getD i default = os.getD j default) && decide (i < j))
theorem befB_iff {g : Bool} {os : List Str} {i j : Nat} : befB g os j i = true ↔ Bef g os i j := by simp [befB, Bef]
theorem ahead_count {g : Bool} {os : List Str} {j : Nat} (hj : j < os.length) : ahead g os j = (List.range os.length).countP (befB g os j) := by
  have e : befB g os j = fun i => kless g (os.getD i default) (os.getD j default) || (decide (os.getD i default = os.getD j default) && decide (i < j)) := rfl
  rw [e, countP_or]
  · unfold ahead
    rw [← List.countP_eq_length_filter, ← List.countP_eq_length_filter, countP_getD]
    congr 1
    have h1 : List.range os.length = List.range j ++ (List.range' j (os.length - j)) := by
      rw [List.range_eq_range', List.range_eq_range']
      have := List.range'_append_1 (s := 0) (m := j) (n := os.length - j)
      rw [Nat.zero_add] at this
      rw [this]
      congr 1; lia
    rw [h1, List.countP_append]
    have h2 : (List.range' j (os.length - j)).countP (fun i => decide (os.getD i default = os.getD j default) && decide (i < j)) = 0 := by
      rw [List.countP_eq_zero]
      intro x hx
      have := List.mem_range'_1.mp hx
      simp; lia
    rw [h2, Nat.add_zero, countP_getD]
    have h3 : (os.take j).length = j := by rw [List.length_take]; lia
    rw [h3]
    refine List.countP_congr fun x hx => ?_
    have hx := List.mem_range.mp hx
    have e1 : (os.take j).getD x default = os.getD x default := by simp [List.getD_eq_getElem?_getD, List.getElem?_take, hx]
    rw [e1]
    simp [hx]
  · intro x _ h
    rw [Bool.and_eq_false_iff]
    left
    rw [decide_eq_false_iff_not]
    intro e
    rw [e, kless_irr] at h
    exact Bool.noConfusion h
/-- the first w in the order asked for are the few -/
theorem few_law {g : Bool} {ps : List (Str × Tok)} {os : List Str} (hl : os.length = ps.length) {res out : List Nat} (hp : (res ++ out).Perm (List.range os.length)) (hs : res.Pairwise (Bef g os)) (ho : ∀ a ∈ res, ∀ b ∈ out, Bef g os a b) :
    fewUpTo g ps os res.length = res.map fun i => ps.getD i default := by
  have hlt : ∀ a ∈ res ++ out, a < os.length := fun a ha => List.mem_range.mp (hp.mem_iff.mp ha)
  have hnd : (res ++ out).Nodup := hp.nodup_iff.mpr List.nodup_range
  have hcnt : ∀ j, j < os.length → ahead g os j = (res ++ out).countP (befB g os j) := fun j hj => by rw [ahead_count hj, hp.countP_eq]
  have hres : ∀ k (hk : k < res.length), ahead g os res[k] = k := fun k hk => by
    rw [hcnt _ (hlt _ (List.mem_append_left _ (List.getElem_mem hk))), List.countP_append]
    have h1 : out.countP (befB g os res[k]) = 0 := by
      rw [List.countP_eq_zero]
      intro b hb h
      exact bef_asy (ho _ (List.getElem_mem hk) b hb) (befB_iff.mp h)
    rw [h1, Nat.add_zero]
    have e : res = res.take k ++ res[k] :: res.drop (k + 1) := by rw [← List.drop_eq_getElem_cons hk, List.take_append_drop]
    have hs' := hs
    rw [e] at hs'
    have hs2 := List.pairwise_append.mp hs'
    conv => lhs; arg 2; rw [e]
    rw [List.countP_append, List.countP_cons]
    have h2 : (res.take k).countP (befB g os res[k]) = k := by
      have := (List.countP_eq_length (p := befB g os res[k]) (l := res.take k)).mpr fun a ha => befB_iff.mpr (hs2.2.2 a ha _ (.head _))
      rw [this, List.length_take]; lia
    have h3 : (res.drop (k + 1)).countP (befB g os res[k]) = 0 := by
      rw [List.countP_eq_zero]
      intro b hb h
      exact bef_asy (List.rel_of_pairwise_cons hs2.2.1 hb) (befB_iff.mp h)
    have h4 : befB g os res[k] res[k] = false := Bool.eq_false_iff.mpr fun h => bef_irr (befB_iff.mp h)
    rw [h2, h3, h4]
    simp
  have hout : ∀ b ∈ out, res.length ≤ ahead g os b := fun b hb => by
    rw [hcnt b (hlt _ (List.mem_append_right _ hb)), List.countP_append]
    have := (List.countP_eq_length (p := befB g os b) (l := res)).mpr fun a ha => befB_iff.mpr (ho a ha b hb)
    lia
  have hat : ∀ k (hk : k < res.length), fewAt g ps os k = [ps.getD res[k] default] := fun k hk => by
    have e1 : fewAt g ps os k = ((List.range ps.length).filter fun j => decide (ahead g os j = k)).map fun j => ps.getD j default := by
      unfold fewAt
      generalize List.range ps.length = l
      induction l with
      | nil => rfl
      | cons x l ih =>
        rw [List.filterMap_cons, List.filter_cons]
        by_cases h : ahead g os x = k
        · simp only [h, if_true, decide_true, List.map_cons]; rw [ih]
        · simp only [h, if_false, decide_false, Bool.false_eq_true]; exact ih
    have e2 : ((List.range ps.length).filter fun j => decide (ahead g os j = k)) = [res[k]] := by
      refine List.perm_singleton.mp ((List.perm_ext_iff_of_nodup (List.Pairwise.filter _ List.nodup_range) (List.nodup_cons.mpr ⟨List.not_mem_nil, List.nodup_nil⟩)).mpr fun j => ?_)
      rw [List.mem_filter, List.mem_singleton, List.mem_range, decide_eq_true_iff]
      constructor
      · rintro ⟨hj, ha⟩
        have hm : j ∈ res ++ out := hp.mem_iff.mpr (List.mem_range.mpr (by lia))
        rcases List.mem_append.mp hm with hm | hm
        · obtain ⟨k', hk', rfl⟩ := List.getElem_of_mem hm
          have := hres k' hk'
          have e : k' = k := by lia
          subst e; rfl
        · have := hout j hm
          lia
      · rintro rfl
        exact ⟨by have := hlt _ (List.mem_append_left _ (List.getElem_mem hk)); lia, hres k hk⟩
    rw [e1, e2]; rfl
  have key : ∀ k, k ≤ res.length → fewUpTo g ps os k = (res.take k).map fun i => ps.getD i default := by
    intro k
    induction k with
    | zero => intro _; rfl
    | succ k ih =>
      intro hk
      have e : fewUpTo g ps os (k + 1) = fewUpTo g ps os k ++ fewAt g ps os k := by
        unfold fewUpTo
        rw [List.range_succ, List.flatMap_append]
        simp
      rw [e, ih (by lia), hat k (by lia), List.take_succ_eq_append_getElem (by lia), List.map_append]
      rfl
  have := key res.length (Nat.le_refl _)
  rwa [List.take_length] at this

-- text: H4
theorem perm_lift {α β : Type} (f : α → β) {l m : List β} (h : l.Perm m) : ∀ {a : List α}, m = a.map f → ∃ b : List α, b.Perm a ∧ l = b.map f := by
  induction h with
  | nil =>
    intro a e
    cases a with
    | nil => exact ⟨[], .refl _, rfl⟩
    | cons y a => cases e
  | cons x _ ih =>
    intro a e
    cases a with
    | nil => cases e
    | cons y a =>
      rw [List.map_cons, List.cons.injEq] at e
      obtain ⟨b, hb, e2⟩ := ih e.2
      exact ⟨y :: b, hb.cons y, by rw [List.map_cons, ← e2, e.1]⟩
  | swap x y l =>
    intro a e
    cases a with
    | nil => cases e
    | cons u a =>
      cases a with
      | nil => cases e
      | cons v a =>
        simp only [List.map_cons, List.cons.injEq] at e
        refine ⟨v :: u :: a, List.Perm.swap _ _ _, ?_⟩
        simp only [List.map_cons, List.cons.injEq]
        exact ⟨e.2.1, e.1, e.2.2⟩
  | trans _ _ ih1 ih2 =>
    intro a e
    obtain ⟨b, hb, e2⟩ := ih2 e
    obtain ⟨c, hc, e3⟩ := ih1 e2
    exact ⟨c, hc.trans hb, e3⟩
/-- ahead in the order asked for, of triples -/
noncomputable def blt (g : Bool) (x y : Core) : Bool := if g then Core.less y x else Core.less x y
/-- the heap's order: the last at the root -/
noncomputable def hlt (g : Bool) (x y : Core) : Bool := blt g y x
theorem wk_core (g : Bool) : Wk (hlt g) := by
  cases g
  · exact ⟨fun a => core_irr a, fun a b h => core_asy (x := b) (y := a) h, fun a b c h1 h2 => core_ntr (a := c) (b := b) (c := a) h2 h1⟩
  · exact ⟨fun a => core_irr a, fun a b h => core_asy (x := a) (y := b) h, fun a b c h1 h2 => core_ntr (a := a) (b := b) (c := c) h1 h2⟩
/-- a place's triple -/
noncomputable def cor (kf : Str → Str) (xs : List (Str × Tok)) (od : Nat → Int) (i : Nat) : Core := (kf (xs.getD i default).1, od i, (xs.getD i default).1)
noncomputable def later (g : Bool) (a b : Int) : Prop := if g then b < a else a < b
noncomputable abbrev keysOf (kf : Str → Str) (xs : List (Str × Tok)) : List Str := xs.map fun p => kf p.1
theorem keys_get {kf : Str → Str} {xs : List (Str × Tok)} {i : Nat} (hi : i < xs.length) : (keysOf kf xs).getD i default = kf (xs.getD i default).1 := by simp [keysOf, hi]
theorem blt_bef {g : Bool} {kf : Str → Str} {xs : List (Str × Tok)} {od : Nat → Int} {i j : Nat} (hi : i < xs.length) (hj : j < xs.length) (h : i < j → later g (od i) (od j)) (h' : j < i → later g (od j) (od i)) (hne : i ≠ j) : blt g (cor kf xs od i) (cor kf xs od j) = true ↔ Bef g (keysOf kf xs) i j := by
  unfold Bef
  rw [keys_get hi, keys_get hj]
  by_cases e : kf (xs.getD i default).1 = kf (xs.getD j default).1
  · rw [e, kless_irr]
    rcases Nat.lt_or_gt_of_ne hne with hl | hl
    · have h1 := h hl
      have : blt g (cor kf xs od i) (cor kf xs od j) = true := by
        cases g
        · have h1 : od i < od j := h1
          simp only [blt, cor, Core.less, e, if_true, if_neg (Int.ne_of_lt h1), Bool.false_eq_true, if_false]
          exact decide_eq_true h1
        · have h1 : od j < od i := h1
          simp only [blt, cor, Core.less, e, if_true, if_neg (Int.ne_of_lt h1)]
          exact decide_eq_true h1
      simp [this, hl]
    · have h1 := h' hl
      have : blt g (cor kf xs od i) (cor kf xs od j) = false := by
        cases g
        · have h1 : od j < od i := h1
          simp only [blt, cor, Core.less, e, if_true, if_neg (Int.ne_of_gt h1), Bool.false_eq_true, if_false]
          exact decide_eq_false (Int.lt_asymm h1)
        · have h1 : od i < od j := h1
          simp only [blt, cor, Core.less, e, if_true, if_neg (Int.ne_of_gt h1)]
          exact decide_eq_false (Int.lt_asymm h1)
      rw [this]
      constructor
      · intro h; exact Bool.noConfusion h
      · rintro (h | h)
        · exact Bool.noConfusion h
        · lia
  · have : blt g (cor kf xs od i) (cor kf xs od j) = kless g (kf (xs.getD i default).1) (kf (xs.getD j default).1) := by
      cases g
      · simp only [blt, cor, Core.less, kless, Bool.false_eq_true, if_false]
        exact if_neg e
      · simp only [blt, cor, Core.less, kless, if_true]
        exact if_neg (Ne.symm e)
    rw [this]
    constructor
    · exact .inl
    · rintro (h | h)
      · exact h
      · exact absurd h.1 e
/-- what holds of the heap of the few, behind i of the paths -/
structure FewInv (g : Bool) (kf : Str → Str) (xs : List (Str × Tok)) (k : Nat) (i : Nat) (hs : List Core) (od : Int) (idx out : List Nat) (ord : Nat → Int) : Prop where
  eq : hs = idx.map (cor kf xs ord)
  heap : HF (hlt g) hs 0
  len : idx.length = k
  perm : (idx ++ out).Perm (List.range i)
  bef : ∀ a ∈ idx, ∀ b ∈ out, Bef g (keysOf kf xs) a b
  mono : ∀ a ∈ idx, ∀ b ∈ idx, a < b → later g (ord a) (ord b)
  fresh : ∀ a ∈ idx, later g (ord a) od
noncomputable def stepOf (g : Bool) (kf : Str → Str) (st : List Core × Int) (x : Str) : List Core × Int := topStep (hlt g) (kless g) (if g then -1 else 1) kf st x
theorem few_step {g : Bool} {kf : Str → Str} {xs : List (Str × Tok)} {k i : Nat} {hs : List Core} {od : Int} (hk : 0 < k) (hi : i < xs.length) (h : ∃ idx out ord, FewInv g kf xs k i hs od idx out ord) :
    ∃ idx out ord, FewInv g kf xs k (i + 1) (stepOf g kf (hs, od) (xs.getD i default).1).1 (stepOf g kf (hs, od) (xs.getD i default).1).2 idx out ord := by
  obtain ⟨idx, out, ord, I⟩ := h
  cases idx with
  | nil => have := I.len; simp at this; lia
  | cons m rest =>
    have hlt : ∀ a, a ∈ (m :: rest) ++ out → a < i := fun a ha => List.mem_range.mp (I.perm.mem_iff.mp ha)
    have hm : m < i := hlt m (.head _)
    have hnd : ((m :: rest) ++ out).Nodup := I.perm.nodup_iff.mpr List.nodup_range
    have hmr : ∀ a ∈ rest, a ≠ m := fun a ha e => (List.nodup_cons.mp hnd).1 (List.mem_append_left _ (e ▸ ha))
    have hroot : ∀ a ∈ rest, Bef g (keysOf kf xs) a m := fun a ha => by
      have h1 := root_mem (wk_core g) I.heap (cor kf xs ord a) (by rw [I.eq]; exact List.mem_map.mpr ⟨a, .tail _ ha, rfl⟩)
      have h2 : hs[0]! = cor kf xs ord m := by rw [I.eq]; rfl
      rw [h2] at h1
      have hne := hmr a ha
      rcases bef_tot (g := g) (os := keysOf kf xs) hne with h3 | h3
      · exact h3
      · have h4 := (blt_bef (g := g) (kf := kf) (xs := xs) (od := ord) (i := m) (j := a) (by lia) (by have := hlt a (.tail _ (List.mem_append_left _ ha)); lia) (I.mono m (.head _) a (.tail _ ha)) (I.mono a (.tail _ ha) m (.head _)) hne.symm).mpr h3
        have h1 : blt g (cor kf xs ord m) (cor kf xs ord a) = false := h1
        rw [h4] at h1; exact Bool.noConfusion h1
    have htop : (hs[0]!).1 = kf (xs.getD m default).1 := by rw [I.eq]; rfl
    have eki := keys_get (kf := kf) hi
    have ekm := keys_get (kf := kf) (show m < xs.length by lia)
    unfold stepOf topStep
    cases hc : kless g (kf (xs.getD i default).1) (hs[0]!).1 with
    | false =>
      rw [if_neg (by simp)]
      rw [htop] at hc
      have him : Bef g (keysOf kf xs) m i := by
        rcases bef_tot (g := g) (os := keysOf kf xs) (Nat.ne_of_lt hm) with h3 | h3
        · exact h3
        · rcases h3 with h3 | h3
          · rw [eki, ekm, hc] at h3; exact Bool.noConfusion h3
          · lia
      refine ⟨m :: rest, out ++ [i], ord, I.eq, I.heap, I.len, ?_, fun a ha b hb => ?_, I.mono, I.fresh⟩
      · rw [← List.append_assoc, List.range_succ]
        exact I.perm.append_right _
      · rcases List.mem_append.mp hb with hb | hb
        · exact I.bef a ha b hb
        · rw [List.mem_singleton.mp hb]
          rcases List.mem_cons.mp ha with rfl | ha
          · exact him
          · exact bef_tr (hroot a ha) him
    | true =>
      rw [if_pos rfl]
      rw [htop] at hc
      have him : Bef g (keysOf kf xs) i m := .inl (by rw [eki, ekm]; exact hc)
      have h0 : 0 < hs.length := by rw [I.eq]; simp
      have hr := repl_heap (wk_core g) (x := (kf (xs.getD i default).1, od, (xs.getD i default).1)) I.heap h0
      have ord' : ∀ a, a < i → (fun j => if j = i then od else ord j) a = ord a := fun a ha => if_neg (Nat.ne_of_lt ha)
      have eset : hs.set 0 (kf (xs.getD i default).1, od, (xs.getD i default).1) = (i :: rest).map (cor kf xs fun j => if j = i then od else ord j) := by
        rw [I.eq]
        show _ :: _ = _ :: _
        congr 1
        · show _ = (_, (if i = i then od else ord i), _)
          rw [if_pos rfl]
        · refine List.map_congr_left fun a ha => ?_
          show (_, ord a, _) = (_, (if a = i then od else ord a), _)
          rw [if_neg (by have := hlt a (.tail _ (List.mem_append_left _ ha)); lia)]
      obtain ⟨idx', hp', e'⟩ := perm_lift _ hr.2 eset
      have hmem : ∀ a, a ∈ idx' → a = i ∨ a ∈ rest := fun a ha => List.mem_cons.mp (hp'.mem_iff.mp ha)
      have hrl : ∀ a ∈ rest, a < i := fun a ha => hlt a (.tail _ (List.mem_append_left _ ha))
      refine ⟨idx', m :: out, _, e', hr.1, ?_, ?_, ?_, ?_, ?_⟩
      · rw [hp'.length_eq]; exact I.len
      · have h1 : (idx' ++ m :: out).Perm (i :: (rest ++ m :: out)) := hp'.append_right _
        have h2 : (rest ++ m :: out).Perm ((m :: rest) ++ out) := List.perm_middle
        rw [List.range_succ]
        exact h1.trans ((List.Perm.cons _ (h2.trans I.perm)).trans (List.perm_append_singleton i _).symm)
      · intro a ha b hb
        rcases hmem a ha with rfl | ha <;> rcases List.mem_cons.mp hb with rfl | hb
        · exact him
        · exact bef_tr him (I.bef m (.head _) b hb)
        · exact hroot a ha
        · exact I.bef a (.tail _ ha) b hb
      · intro a ha b hb hab
        rcases hmem a ha with rfl | ha <;> rcases hmem b hb with rfl | hb
        · lia
        · have := hrl b hb; lia
        · have h1 := I.fresh a (.tail _ ha)
          have h2 := hrl a ha
          simp only [if_neg (Nat.ne_of_lt h2), if_pos]
          exact h1
        · have h1 := I.mono a (.tail _ ha) b (.tail _ hb) hab
          simp only [if_neg (Nat.ne_of_lt (hrl a ha)), if_neg (Nat.ne_of_lt (hrl b hb))]
          exact h1
      · intro a ha
        rcases hmem a ha with rfl | ha
        · simp only [if_pos]
          cases g
          · show od < od + 1; lia
          · show od + -1 < od; lia
        · have h1 := I.fresh a (.tail _ ha)
          simp only [if_neg (Nat.ne_of_lt (hrl a ha))]
          cases g
          · have h1 : ord a < od := h1
            show ord a < od + 1; lia
          · have h1 : od < ord a := h1
            show od + -1 < ord a; lia
theorem few_fold {g : Bool} {kf : Str → Str} {xs : List (Str × Tok)} {k : Nat} (hk : 0 < k) : ∀ (n i : Nat) (st : List Core × Int), n + i = xs.length → (∃ idx out ord, FewInv g kf xs k i st.1 st.2 idx out ord) →
    ∃ idx out ord, FewInv g kf xs k xs.length (((xs.drop i).map (·.1)).foldl (stepOf g kf) st).1 (((xs.drop i).map (·.1)).foldl (stepOf g kf) st).2 idx out ord
  | 0, i, st, h, H => by
    have e : i = xs.length := by lia
    subst e
    rw [List.drop_length]; exact H
  | n + 1, i, st, h, H => by
    have hi : i < xs.length := by lia
    have e : xs[i] = xs.getD i default := by simp [hi]
    rw [List.drop_eq_getElem_cons hi, List.map_cons, List.foldl_cons, e]
    exact few_fold hk n (i + 1) _ (by lia) (few_step hk hi H)
noncomputable def allOf (g : Bool) (kf : Str → Str) (k : Nat) (xs : List (Str × Tok)) : List Core × Int :=
  ((xs.drop k).map (·.1)).foldl (stepOf g kf) (hfy (hlt g) (k / 2) ((List.range k).map (cor kf xs fun j => 0 + (j : Int) * (if g then -1 else 1))), (k : Int) * (if g then -1 else 1))
theorem few_all {g : Bool} {kf : Str → Str} {xs : List (Str × Tok)} {k : Nat} (hk : 0 < k) (hkx : k ≤ xs.length) : ∃ idx out ord, FewInv g kf xs k xs.length (allOf g kf k xs).1 (allOf g kf k xs).2 idx out ord := by
  unfold allOf
  have hl : ((List.range k).map (cor kf xs fun j => 0 + (j : Int) * (if g then -1 else 1))).length = k := by simp
  have hh := hfy_all (wk_core g) ((List.range k).map (cor kf xs fun j => 0 + (j : Int) * (if g then -1 else 1)))
  rw [hl] at hh
  obtain ⟨idx, hp, e⟩ := perm_lift _ hh.2 rfl
  refine few_fold hk (xs.length - k) k _ (by lia) ⟨idx, [], _, e, hh.1, by rw [hp.length_eq]; simp, by rw [List.append_nil]; exact hp, fun _ _ _ hb => absurd hb List.not_mem_nil, fun a _ b _ hab => ?_, fun a ha => ?_⟩
  · cases g
    · show 0 + (a : Int) * 1 < 0 + (b : Int) * 1; lia
    · show 0 + (b : Int) * (-1) < 0 + (a : Int) * (-1); lia
  · have := List.mem_range.mp (hp.mem_iff.mp ha)
    cases g
    · show 0 + (a : Int) * 1 < (k : Int) * 1; lia
    · show (k : Int) * (-1) < 0 + (a : Int) * (-1); lia
theorem few_nodup {g : Bool} {kf : Str → Str} {xs : List (Str × Tok)} {k : Nat} (hk : 0 < k) (hkx : k ≤ xs.length) : (allOf g kf k xs).1.Nodup := by
  obtain ⟨idx, out, ord, I⟩ := few_all (g := g) (kf := kf) hk hkx
  rw [I.eq]
  have hnd : idx.Nodup := (List.nodup_append.mp (I.perm.nodup_iff.mpr List.nodup_range)).1
  refine List.pairwise_map.mpr ((List.Pairwise.imp_of_mem (R := fun a b => a ≠ b)) (fun {a b} ha hb hne e => ?_) hnd)
  have e2 : ord a = ord b := congrArg (fun c : Core => c.2.1) e
  rcases Nat.lt_or_gt_of_ne hne with h | h
  · have := I.mono a ha b hb h
    cases g
    · have h3 : ord a < ord b := this; lia
    · have h3 : ord b < ord a := this; lia
  · have := I.mono b hb a ha h
    cases g
    · have h3 : ord b < ord a := this; lia
    · have h3 : ord a < ord b := this; lia
/-- the few that the heap holds, in order, are the few asked for -/
theorem few_heap {g : Bool} {kf : Str → Str} {xs : List (Str × Tok)} {k : Nat} (hk : 0 < k) (hkx : k ≤ xs.length) {res : List Core} (hp : res.Perm (allOf g kf k xs).1) (hs : res.Pairwise fun a b => blt g a b = true) :
    res.map (·.2.2) = (fewUpTo g xs (keysOf kf xs) k).map (·.1) := by
  obtain ⟨idx, out, ord, I⟩ := few_all (g := g) (kf := kf) hk hkx
  obtain ⟨idx', hp', e⟩ := perm_lift _ hp I.eq
  have hlen : idx'.length = k := by rw [hp'.length_eq]; exact I.len
  have hperm : (idx' ++ out).Perm (List.range xs.length) := (hp'.append_right _).trans I.perm
  have hnd : idx'.Nodup := (List.nodup_append.mp (hperm.nodup_iff.mpr List.nodup_range)).1
  have hlt : ∀ a ∈ idx', a < xs.length := fun a ha => List.mem_range.mp (hperm.mem_iff.mp (List.mem_append_left _ ha))
  have hmem : ∀ a, a ∈ idx' → a ∈ idx := fun a ha => hp'.mem_iff.mp ha
  have hpw : idx'.Pairwise (Bef g (keysOf kf xs)) := by
    rw [e] at hs
    have h1 := List.pairwise_map.mp hs
    refine (List.Pairwise.and hnd h1).imp_of_mem fun {a b} ha hb h => ?_
    exact (blt_bef (hlt a ha) (hlt b hb) (I.mono a (hmem a ha) b (hmem b hb)) (I.mono b (hmem b hb) a (hmem a ha)) h.1).mp h.2
  have hkl : (keysOf kf xs).length = xs.length := by simp [keysOf]
  have := few_law (g := g) (ps := xs) (os := keysOf kf xs) hkl (res := idx') (out := out) (by rw [hkl]; exact hperm) hpw fun a ha b hb => I.bef a (hmem a ha) b hb
  rw [hlen] at this
  rw [this, e, List.map_map, List.map_map]
  rfl
theorem ns_all (kf : Str → Str) (k : Nat) (xs : List (Str × Tok)) : nsAll kf k xs = allOf false kf k xs := by
  unfold allOf nsAll
  rw [show ((k : Int) * (if false = true then (-1 : Int) else 1)) = (k : Int) from Int.mul_one _]
  rfl
theorem nl_all (kf : Str → Str) (k : Nat) (xs : List (Str × Tok)) : nlAll kf k xs = allOf true kf k xs := by
  unfold allOf nlAll
  rw [show ((k : Int) * (if true = true then (-1 : Int) else 1)) = -(k : Int) by rw [if_pos rfl]; lia]
  rfl

-- text: H5
theorem best_from {g : Bool} {kf : Str → Str} {xs : List (Str × Tok)} : ∀ (ys pre : List (Str × Tok)) (b : Str × Tok), xs = pre ++ ys → (∃ m, m < pre.length ∧ b = xs.getD m default ∧ ∀ i, i < pre.length → i ≠ m → Bef g (keysOf kf xs) m i) →
    ∃ m, m < xs.length ∧ bestBy (kless g) kf b ys = xs.getD m default ∧ ∀ i, i < xs.length → i ≠ m → Bef g (keysOf kf xs) m i
  | [], pre, b, e, h => by rw [e, List.append_nil] at *; exact h
  | y :: ys, pre, b, e, ⟨m, hm, hb, hall⟩ => by
    have hlen : pre.length < xs.length := by rw [e, List.length_append, List.length_cons]; lia
    have hy : xs.getD pre.length default = y := by rw [e]; simp
    have eki := keys_get (kf := kf) hlen
    have ekm := keys_get (kf := kf) (show m < xs.length by lia)
    have e' : xs = (pre ++ [y]) ++ ys := by rw [e, List.append_assoc]; rfl
    have hl' : (pre ++ [y]).length = pre.length + 1 := by simp
    unfold bestBy
    cases hc : kless g (kf y.1) (kf b.1) with
    | true =>
      rw [if_pos rfl]
      have him : Bef g (keysOf kf xs) pre.length m := .inl (by rw [eki, ekm, hy, ← hb]; exact hc)
      refine best_from ys (pre ++ [y]) y e' ⟨pre.length, by lia, hy.symm, fun i hi hne => ?_⟩
      by_cases e2 : i = m
      · rw [e2]; exact him
      · exact bef_tr him (hall i (by lia) e2)
    | false =>
      rw [if_neg (by simp)]
      refine best_from ys (pre ++ [y]) b e' ⟨m, by lia, hb, fun i hi hne => ?_⟩
      by_cases e2 : i = pre.length
      · subst e2
        rcases bef_tot (g := g) (os := keysOf kf xs) hne with h3 | h3
        · rcases h3 with h3 | h3
          · rw [eki, ekm, hy, ← hb, hc] at h3; exact Bool.noConfusion h3
          · lia
        · exact h3
      · exact hall i (by lia) hne
theorem best_law {g : Bool} {kf : Str → Str} {xs xs' : List (Str × Tok)} {x0 : Str × Tok} (hx : xs = x0 :: xs') : [bestBy (kless g) kf x0 xs'] = fewUpTo g xs (keysOf kf xs) 1 := by
  obtain ⟨m, hm, hb, hall⟩ := best_from (g := g) (kf := kf) xs' [x0] x0 hx ⟨0, Nat.one_pos, by rw [hx]; rfl, fun i hi hne => by simp at hi; lia⟩
  have hkl : (keysOf kf xs).length = xs.length := by simp [keysOf]
  have hmr : m ∈ List.range xs.length := List.mem_range.mpr hm
  have := few_law (g := g) (ps := xs) (os := keysOf kf xs) hkl (res := [m]) (out := (List.range xs.length).erase m) (by rw [hkl]; exact (List.perm_cons_erase hmr).symm) (List.pairwise_singleton _ _) fun a ha b hb2 => by
    rw [List.mem_singleton.mp ha]
    have h2 := (List.Nodup.mem_erase_iff List.nodup_range).mp hb2
    exact hall b (List.mem_range.mp h2.2) h2.1
  rw [hb]
  exact this.symm
/-- six paths sorted by their keys -/
theorem six_law {kf : Str → Str} {xs : List (Str × Tok)} (hx : xs.length = 6) : ∃ p : Array Nat, runL (fun i j => sless (kf (xs.getD i default).1) (kf (xs.getD j default).1)) xs.length (kas_sort xs.length) = some p ∧ (∀ i ∈ p.toList, i < xs.length) ∧ p.toList.length = 6 ∧
    (p.toList.map fun i => xs.getD i default) = fewUpTo false xs (keysOf kf xs) 6 := by
  have hkl : (keysOf kf xs).length = 6 := by simp [keysOf, hx]
  have W : Wk (fun i j => sless (kf (xs.getD i default).1) (kf (xs.getD j default).1)) := ⟨fun a => sless_irr _, fun a b h => wk_str.asy (kf (xs.getD a default).1, 0) (kf (xs.getD b default).1, 0) h, fun a b c h1 h2 => not_less_tr h1 h2⟩
  obtain ⟨p, h1, h2, h3⟩ := okT_hold W (kas_sort 6) [] (List.forall_mem_nil _) okT6
  have hpw : p.toList.Pairwise (Bef false (keysOf kf xs)) := h2.imp_of_mem fun {a b} ha hb h => by
    have ha := (h3 a).mp ha
    have hb := (h3 b).mp hb
    have eka := keys_get (kf := kf) (show a < xs.length by lia)
    have ekb := keys_get (kf := kf) (show b < xs.length by lia)
    rcases h with h | ⟨h, hab⟩
    · exact .inl (by rw [eka, ekb]; exact h)
    · rcases bef_tot (g := false) (os := keysOf kf xs) (Nat.ne_of_lt hab) with h4 | h4
      · exact h4
      · rcases h4 with h4 | h4
        · rw [eka, ekb] at h4
          have h4 : sless (kf (xs.getD b default).1) (kf (xs.getD a default).1) = true := h4
          have h : sless (kf (xs.getD b default).1) (kf (xs.getD a default).1) = false := h
          rw [h] at h4; exact Bool.noConfusion h4
        · lia
  have hnd : p.toList.Nodup := hpw.imp fun {a b} h e => by rw [e] at h; exact bef_irr h
  have hperm : p.toList.Perm (List.range 6) := (List.perm_ext_iff_of_nodup hnd List.nodup_range).mpr fun j => by rw [h3 j, List.mem_range]
  have hlen : p.toList.length = 6 := by rw [hperm.length_eq, List.length_range]
  refine ⟨p, by rw [hx]; exact h1, fun i hi => by rw [hx]; exact (h3 i).mp hi, hlen, ?_⟩
  have := few_law (g := false) (ps := xs) (os := keysOf kf xs) (by lia) (res := p.toList) (out := []) (by rw [List.append_nil, hkl]; exact hperm) hpw (fun _ _ _ h => absurd h List.not_mem_nil)
  rw [hlen] at this
  exact this.symm

-- text: Law15
section
open PyProof.Rows.LCg (NsObj lst)
theorem least_first {ps : List (Str × Tok)} {zt : List Str} (hp : zt.Perm (ps.map (·.1))) (hs : zt.Pairwise fun a b => sless b a = false) {x lst : Str} (hx : x ∈ zt) (h : LeastOf ps x lst) : firstOf lawMod zt x = lst := by
  obtain ⟨y, hy, rfl⟩ := List.mem_map.mp h.1
  obtain ⟨hy1, hy2⟩ := List.mem_filter.mp hy
  refine firstOf_least hs hx (hp.mem_iff.mpr (List.mem_map.mpr ⟨y, hy1, rfl⟩)) (of_decide_eq_true hy2) fun a ha hk => ?_
  obtain ⟨b, hb, rfl⟩ := List.mem_map.mp (hp.mem_iff.mp ha)
  exact h.2 _ (List.mem_map.mpr ⟨b, List.mem_filter.mpr ⟨hb, decide_eq_true hk⟩, rfl⟩)
theorem mem_turn {α : Type} {x y p : α} {a R : List α} (h : p ∈ x :: (a ++ y :: R)) : p ∈ a ++ y :: x :: R := by
  simp only [List.mem_cons, List.mem_append] at h ⊢
  rcases h with h | h | h | h
  · exact .inr (.inr (.inl h))
  · exact .inl h
  · exact .inr (.inl h)
  · exact .inr (.inr (.inr h))
structure DueSt where
  rows : List PRow
  nu : Nat
  o2 : Obj
  o3 : Obj
  R : Led
noncomputable def dueLed (L U D O M P : Addr) (ps os mods pls : List (Str × Tok)) (a0 np no nm nl : Nat) (c : DueSt) : Led :=
  (U, listOf (toldOf a0 c.rows).toArray c.nu) :: (L + 1 + 1, c.o2) :: (L + 1 + 1 + 1, c.o3) :: (D, listOf (ps.map strO.val).toArray np) :: (O, listOf (os.map strO.val).toArray no) :: (M, listOf (mods.map strO.val).toArray nm) :: (P, listOf (pls.map strO.val).toArray nl) :: c.R
/-- the rows due for the paths in a row -/
noncomputable def dueRows (mods pls : List (Str × Tok)) (zt pre : List Str) : List (Str × Str × Bool) := pre.map fun z => (z, lawMod z, dueAns mods pls (firstOf lawMod zt z) (lawMod z))
structure DueInv (mods pls : List (Str × Tok)) (zt pre : List Str) (st : Led) (bad : List Addr) (c : DueSt) : Prop where
  rows : c.rows.map PRow.plain = dueRows mods pls zt pre
  o2 : ∃ v, c.o2.data = .cell v
  o3 : ∃ v, c.o3.data = .cell v
  rin : ∀ r ∈ c.rows, r.ent ∈ c.R
  sin : ∀ p ∈ st, p ∈ c.R
  off : ∀ p ∈ c.R, p.1 ∉ bad
section
variable {w : World} {mean : ExcName → Option Value} {mg mb : Str → Option Value} {h₀ base : Heap} {L fa : Addr} {cd : Value} {m : Str → Option Value} {s : Shared} {Q : Flow → Shared → Prop} {E : Value → Shared → Prop}
theorem law15 (B : Below callerA base [] h₀) (F : Fr h₀ L s.heap m) (T : Top q0 (looseW q0 loose0) mean mg mb h₀) {st : Led} {U D O M P : Addr} {ps os mods pls : List (Str × Tok)} {a0 nu np no nm nl : Nat} {o2 o3 : Obj}
    (N : News h₀ L s.heap ((U, listOf (List.replicate a0 Value.none).toArray nu) :: (L + 1 + 1, o2) :: (L + 1 + 1 + 1, o3) :: (D, listOf (ps.map strO.val).toArray np) :: (O, listOf (os.map strO.val).toArray no) :: (M, listOf (mods.map strO.val).toArray nm) :: (P, listOf (pls.map strO.val).toArray nl) :: st))
    (ho2 : ∃ v, o2.data = .cell v) (ho3 : ∃ v, o3.data = .cell v) (hfix : ∀ p ∈ [D, O, M, P], p ∉ [U, L + 1 + 1, L + 1 + 1 + 1]) (hst : ∀ p ∈ st, p.1 ∉ [U, L + 1 + 1, L + 1 + 1 + 1]) (hU2 : U ≠ L + 1 + 1) (hU3 : U ≠ L + 1 + 1 + 1)
    (hos : os.map (·.1) = ps.map (fun p => lawMod p.1)) (hlen : ps.length < 60) (hps : ∀ p ∈ ps, p.1.length < 1000 ∧ (lawMod p.1).length < 1000) (hml : mods.length < 10) (hpl : pls.length < 10) (hm1 : ∀ p ∈ mods, p.1.length < 1000) (hp1 : ∀ p ∈ pls, p.1.length < 1000) (ha0 : a0 < 100)
    (mP : m (Str.ofString "paths") = some (.ref D)) (mO : m (Str.ofString "owners") = some (.ref O)) (mM : m (Str.ofString "modules") = some (.ref M)) (mL : m (Str.ofString "plain") = some (.ref P)) (mU : m (Str.ofString "due") = some (.ref U))
    (hE : PassesOwn (model PySem.Challenge.rw_nq0173_01.row.prog w) (callerA.deeper (lawE L fa cd)) (lawE L fa cd) E)
    (next : ∀ (h' : Heap) (tk' : Nat) (m' : Str → Option Value) (c : DueSt) (zt : List Str), Fr h₀ L h' m' → News h₀ L h' (dueLed L U D O M P ps os mods pls a0 np no nm nl c) → zt.Perm (ps.map (·.1)) → zt.Pairwise (fun a b => sless b a = false) → DueInv mods pls zt zt st [U, L + 1 + 1, L + 1 + 1 + 1] c →
      (∀ z, z ≠ Str.ofString "path" → z ≠ Str.ofString "above" → z ≠ Str.ofString "below" → m' z = m z) → lawWp w L fa cd 16 Q E { s with heap := h', toks := tk' }) :
    (hd.heap_1 w.params).In h₀ → lawWp w L fa cd 15 Q E s := by
  have mk38 : True := .intro
  unfold lawWp at next ⊢
  k_fill
  intro X
  k_with "m:own" => ((fail_if_success fail_if_success clear mk38); (((with_reducible show wpAny _ _ (eval (PySem.Expr.Name _ _) (envOfC _ _ _ _ _)) _ _ _); k_dflt (refine' nameX_L ?F ?v ?_ ?a ?b; (case F => k_asm); (case v => with_reducible assumption); (case a => rfl); (case b => rfl); k_whole))))
  k_with "m:own" => ((fail_if_success fail_if_success clear mk38); (((with_reducible show wpAny _ _ (call (Value.builtin "sorted") [Value.ref _]) _ _ _); k_dflt (refine' sorted_led ?k1 ?k2 ?k3 ?k4 ?_; (case k1 => k_asm); (case k2 => k_asm); (case k3 => k_mem); (case k4 => omega); k_whole); intro Z zs nz h' F' N' lZ hperm hsort; (try k_sweep))))
  k_with "m:stop" => ((fail_if_success fail_if_success clear mk38); ((with_reducible show wpAny _ _ (call (Value.ref _) _) _ _ _)))
  k_extra "m:steps"
  k_dflt (refine For_turns (hE := hE) F ?_)
  k_with "m:stop" => ((fail_if_success fail_if_success clear mk38); ((with_reducible show wpAny _ _ (pyIter (Value.ref _)) _ _ _)))
  k_extra "m:steps"
  (rename Fr _ _ _ _ => Fn)
  (rename News _ _ _ _ => Nn)
  have Nn' : News h₀ L h' (dueLed L U D O M P ps os mods pls a0 np no nm nl ⟨[], nu, o2, o3, (Z, listOf (zs.map strO.val).toArray nz) :: st⟩) := by
    have := news_swap2 [_] [_, _, _, _, _, _, _] Nn
    rw [show List.replicate a0 Value.none = toldOf a0 [] by simp [toldOf]] at this
    exact this
  clear Nn
  k_dflt (refine iter_listTurns (vs := zs.map strO.val) (n := nz) rfl Fn Nn' (.tail _ (.tail _ (.tail _ (.tail _ (.tail _ (.tail _ (.tail _ (.head _)))))))) rfl rfl ?_)
  clear Fn Nn'
  intro I hI
  have hU1 : @LT.lt Nat _ U I := hI _ (.head _)
  have h2I : @LT.lt Nat _ (L + 1 + 1) I := hI _ (.tail _ (.head _))
  have h3I : @LT.lt Nat _ (L + 1 + 1 + 1) I := hI _ (.tail _ (.tail _ (.head _)))
  have hDI : @LT.lt Nat _ D I := hI _ (.tail _ (.tail _ (.tail _ (.head _))))
  have hOI : @LT.lt Nat _ O I := hI _ (.tail _ (.tail _ (.tail _ (.tail _ (.head _)))))
  have hMI : @LT.lt Nat _ M I := hI _ (.tail _ (.tail _ (.tail _ (.tail _ (.tail _ (.head _))))))
  have hPI : @LT.lt Nat _ P I := hI _ (.tail _ (.tail _ (.tail _ (.tail _ (.tail _ (.tail _ (.head _)))))))
  k_dflt (refine items_st (σ := DueSt) (dueLed L U D O M P ps os mods pls a0 np no nm nl) (fun _ => []) [Str.ofString "path", Str.ofString "above", Str.ofString "below"] (fun items c => ∃ pre rest, items = rest.map (fun x : Str × Tok => Itm.val (.str x.1 x.2)) ∧ zs = pre ++ rest ∧ DueInv mods pls (zs.map (·.1)) (pre.map (·.1)) ((Z, listOf (zs.map strO.val).toArray nz) :: st) [U, L + 1 + 1, L + 1 + 1 + 1] c ∧ ∀ p ∈ c.R, p.1 ≠ I) ?turn ?done _ ⟨[], nu, o2, o3, (Z, listOf (zs.map strO.val).toArray nz) :: st⟩ _ ⟨[], zs, by simp [strO, Function.comp_def], rfl, ⟨rfl, ho2, ho3, List.forall_mem_nil _, fun _ h => h, ?off⟩, ?offI⟩ (List.forall_mem_nil _) (fun _ _ _ => rfl))
  case off => exact List.forall_mem_cons.mpr ⟨in3 (Nat.ne_of_gt lZ.1) (Nat.ne_of_gt lZ.2.1) (Nat.ne_of_gt lZ.2.2.1), hst⟩
  case offI => exact fun p hp => Nat.ne_of_lt (hI p (.tail _ (.tail _ (.tail _ (.tail _ (.tail _ (.tail _ (.tail _ hp))))))))
  case turn =>
    rintro a r ⟨rows, nu, o2, o3, R⟩ u v h tk hP9 hv F9 o ho N9
    refine gen_P fun R9 hR9 => ?_
    obtain ⟨pre, rest, e1, e2, I9, hRI⟩ := hP9
    refine of_P hR9 (gen_body fun R8 hR8 => ?_)
    clear hR9 R9
    cases rest with
    | nil => cases e1
    | cons x rest =>
      cases e1
      have hv' : v = .str x.1 x.2 := hv
      subst hv'
      have hxz : x.1 ∈ zs.map (·.1) := List.mem_map.mpr ⟨x, by rw [e2]; simp, rfl⟩
      have hrl : rows.length < 100 := by
        have h1 := congrArg List.length I9.rows
        have h2 := congrArg List.length e2
        have h3 := hperm.length_eq
        simp only [dueRows, List.length_map, List.length_append, List.length_cons] at h1 h2 h3
        omega
      have N9' : News h₀ L h ((U, listOf (toldOf a0 rows).toArray nu) :: (L + 1 + 1, o2) :: (L + 1 + 1 + 1, o3) :: (D, listOf (ps.map strO.val).toArray np) :: (O, listOf (os.map strO.val).toArray no) :: (M, listOf (mods.map strO.val).toArray nm) :: (P, listOf (pls.map strO.val).toArray nl) :: (I, o) :: R) := news_swap2 [_] [_, _, _, _, _, _, _] N9
      clear N9
      dsimp only [kstB] at *
      k_with "m:stop" => ((fail_if_success fail_if_success clear mk38); ((with_reducible show wpAny _ _ (execs (Stmt.Assign _ _ _ :: _) _) _ _ _)))
      k_extra "m:steps"
      (rename Fr _ _ _ _ => Fn)
      (rename News _ _ _ _ => Nn)
      have hIb : I ∉ [U, L + 1 + 1, L + 1 + 1 + 1] := in3 (Nat.ne_of_gt hU1) (Nat.ne_of_gt h2I) (Nat.ne_of_gt h3I)
      refine due_turn (x := x) B Fn T Nn I9.o2 I9.o3 hfix (List.forall_mem_cons.mpr ⟨hIb, I9.off⟩) hU2 hU3 hos hlen hps hml hpl hm1 hp1 ha0 hrl (hperm.mem_iff.mp hxz) rfl mP mO mM mL mU (fun h5 tk5 m5 o2' o3' r lst F5 N5 ho2' ho3' hrT hrlt hleast hpl hm5 => ?_) X
      refine of_Q hR8 (it_next (it_end ⟨rows ++ [r], nu + 1, o2', o3', r.ent :: R⟩ F5 N5 ?_ ?_ ?_ (List.forall_mem_nil _) ?_ ⟨pre ++ [x], rest, rfl, by rw [e2, List.append_assoc]; rfl, ⟨?_, ho2', ho3', ?_, fun p hp => .tail _ (I9.sin p hp), List.forall_mem_cons.mpr ⟨hrT, I9.off⟩⟩, List.forall_mem_cons.mpr ⟨Nat.ne_of_gt hrlt.1, hRI⟩⟩))
      · exact fun p hp => mem_turn (a := [_, _, _, _, _, _, _]) hp
      · intro p hp q hq
        rw [List.mem_singleton.mp hq]
        show p.1 ≠ I
        revert p
        exact List.forall_mem_cons.mpr ⟨Nat.ne_of_lt hU1, List.forall_mem_cons.mpr ⟨Nat.ne_of_lt h2I, List.forall_mem_cons.mpr ⟨Nat.ne_of_lt h3I, List.forall_mem_cons.mpr ⟨Nat.ne_of_lt hDI, List.forall_mem_cons.mpr ⟨Nat.ne_of_lt hOI, List.forall_mem_cons.mpr ⟨Nat.ne_of_lt hMI, List.forall_mem_cons.mpr ⟨Nat.ne_of_lt hPI, List.forall_mem_cons.mpr ⟨Nat.ne_of_gt hrlt.1, hRI⟩⟩⟩⟩⟩⟩⟩⟩
      · exact fun p hp => by
          rw [List.mem_singleton.mp hp]
          exact .tail _ (.tail _ (.tail _ (.tail _ (.tail _ (.tail _ (.tail _ (.tail _ (I9.sin _ (.head _)))))))))
      · intro z _ hz
        have hz' : z ≠ Str.ofString "path" ∧ z ≠ Str.ofString "above" ∧ z ≠ Str.ofString "below" := by simpa using hz
        refine (hm5 z hz'.2.1 hz'.2.2).trans ?_
        show (if z = _ then _ else if _ then u z else m z) = m z
        rw [if_neg hz'.1, hz]; rfl
      · rw [List.map_append, I9.rows, List.map_append]
        show _ ++ [r.plain] = _
        rw [hpl, ← least_first hperm hsort hxz hleast]
        unfold dueRows
        rw [List.map_append]
        rfl
      · intro r' hr'
        rcases List.mem_append.mp hr' with h | h
        · exact .tail _ (I9.rin r' h)
        · rw [List.mem_singleton.mp h]; exact .head _
  case done =>
    rintro ⟨rows, nu, o2, o3, R⟩ u h tk hP9 F9 N9
    refine gen_P fun R9 hR9 => ?_
    obtain ⟨pre, rest, e1, e2, I9, hRI⟩ := hP9
    refine of_P hR9 ?_
    clear hR9 R9
    cases rest with
    | cons x rest => cases e1
    | nil =>
      rw [List.append_nil] at e2
      subst e2
      exact next _ _ _ ⟨rows, nu, o2, o3, R⟩ _ F9 N9 hperm hsort ⟨I9.rows, I9.o2, I9.o3, I9.rin, fun p hp => I9.sin p (.tail _ hp), I9.off⟩ (fun z h1 h2 h3 => by
        have hc : [Str.ofString "path", Str.ofString "above", Str.ofString "below"].contains z = false := by simp [h1, h2, h3]
        show (if [Str.ofString "path", Str.ofString "above", Str.ofString "below"].contains z then u z else m z) = m z
        rw [hc]; rfl)
end

end

-- text: Law16
section
open PyProof.Rows.LCg (NsObj lst)
section
variable {w : World} {mean : ExcName → Option Value} {mg mb : Str → Option Value} {h₀ base : Heap} {L fa : Addr} {cd : Value} {m : Str → Option Value} {s : Shared} {Q : Flow → Shared → Prop} {E : Value → Shared → Prop}
theorem law16 (B : Below callerA base [] h₀) (F : Fr h₀ L s.heap m) (T : Top q0 (looseW q0 loose0) mean mg mb h₀) {rest : Led} {U D O : Addr} {ps os : List (Str × Tok)} {np no nu wish : Nat} {tw : Tok} {due : List Value}
    (N : News h₀ L s.heap ((D, listOf (ps.map strO.val).toArray np) :: (O, listOf (os.map strO.val).toArray no) :: (U, listOf due.toArray nu) :: rest)) (hUD : D ≠ U) (hUO : O ≠ U) (hU : ∀ p ∈ rest, p.1 ≠ U) (hlen : ps.length = os.length) (hl : ps.length < 100) (hw : wish < 10) (hdl : due.length < 1000)
    (mP : m (Str.ofString "paths") = some (.ref D)) (mO : m (Str.ofString "owners") = some (.ref O)) (mU : m (Str.ofString "due") = some (.ref U)) (mW : m (Str.ofString "wish") = some (.int (wish : Nat) tw))
    (next : ∀ (h' : Heap) (tk' : Nat) (T' H1 D1 D2 : Addr) (k1 k2 : Nat), Fr h₀ L h' m → News h₀ L h' ((U, listOf (due ++ [Value.ref T']).toArray (nu + 1)) :: (T', { cls := .type "tuple", data := .seq #[.ref H1, .ref D1, .ref D2] }) :: (D2, listOf ((fewUpTo true ps (os.map (·.1)) wish).map strO.val).toArray k2) :: (D1, listOf ((fewUpTo false ps (os.map (·.1)) wish).map strO.val).toArray k1) :: (H1, listOf #[] 0) :: (D, listOf (ps.map strO.val).toArray np) :: (O, listOf (os.map strO.val).toArray no) :: rest) →
      lawWp w L fa cd 17 Q E { s with heap := h', toks := tk' }) :
    (hd.heap_1 w.params).In h₀ → lawWp w L fa cd 16 Q E s := by
  have mk39 : True := .intro
  unfold lawWp at next ⊢
  k_fill
  intro X
  k_with "m:own" => ((fail_if_success fail_if_success clear mk39); (((with_reducible show wpAny _ _ (eval (PySem.Expr.Name _ _) (envOfC _ _ _ _ _)) _ _ _); k_dflt (refine' nameX_L ?F ?v ?_ ?a ?b; (case F => k_asm); (case v => with_reducible assumption); (case a => rfl); (case b => rfl); k_whole))))
  k_with "m:stop" => ((fail_if_success fail_if_success clear mk39); ((with_reducible show wpAny _ _ (call (Value.ref _) _ _) _ _ _)))
  k_extra "m:steps"
  (rename Fr _ _ _ _ => Fn)
  (rename News _ _ _ _ => Nn)
  (rename_i H1 g1 lH)
  have N1 := news_swap2 [_] [_, _] Nn
  clear Nn
  k_dflt (refine' Con.use ?k1 ?k2 ?k3 ?k4 ?k5 ?k6 (few_con (t := tw) (g := false) hlen hl hw) ?k7 ?k8 ?_)
  k_extra "m:use"
  intro _ _ h3 tk3 F3 N3 hG29
  refine gen_P fun R9 hR9 => ?_
  obtain ⟨D1, zs1, k1, rfl, rfl, l1, rfl⟩ := hG29
  refine of_P hR9 ?_
  clear hR9 R9
  clear Fn N1
  k_extra "m:steps"
  (rename Fr _ _ _ _ => Fn)
  (rename News _ _ _ _ => Nn)
  have N4 := news_swap2 [_] [_, _] Nn
  clear Nn
  k_dflt (refine' Con.use ?k1 ?k2 ?k3 ?k4 ?k5 ?k6 (few_con (t := tw) (g := true) hlen hl hw) ?k7 ?k8 ?_)
  k_extra "m:use"
  intro _ _ h5 tk5 F5 N5 hG30
  refine gen_P fun R9 hR9 => ?_
  obtain ⟨D2, zs2, k2, rfl, rfl, l2, rfl⟩ := hG30
  refine of_P hR9 ?_
  clear hR9 R9
  clear Fn N4
  k_with "m:stop" => ((fail_if_success fail_if_success clear mk39); ((with_reducible show wpAny _ _ (call (Value.builtin "list.append") _) _ _ _)))
  k_extra "m:steps"
  (rename Fr _ _ _ _ => Fn)
  (rename News _ _ _ _ => Nn)
  (rename _ ∧ _ ∧ _ ∧ _ => lz)
  (rename Addr => T')
  have hTU : @LT.lt Nat _ U T' := lz.2.2.2.2.2.1
  k_dflt (refine append_K Fn Nn (Upd.tail (Nat.ne_of_gt hTU) (Upd.tail (Nat.ne_of_gt l2.2.2.2.2.1) (Upd.tail hUD (Upd.tail hUO (Upd.tail (Nat.ne_of_gt l1.2.2.2.1) (Upd.tail (Nat.ne_of_gt lH.2.2.1) (Upd.head hU))))))) ?_ (by simp; unfold sizeLine; omega))
  intro h8 F8 N8
  clear Fn Nn
  k_with "m:stop" => ((fail_if_success fail_if_success clear mk39); ((with_reducible show wpAny _ _ (execs (Stmt.Return _ _ :: _) _) _ _ _)))
  k_extra "m:steps"
  refine next _ _ T' H1 D1 D2 k1 k2 F8 (fun p hp => N8 p ?_)
  have et : (due ++ [Value.ref T']).toArray = due.toArray.push (.ref T') := by simp
  rw [et] at hp
  rcases List.mem_cons.mp hp with rfl | hp
  · exact .tail _ (.tail _ (.tail _ (.tail _ (.tail _ (.tail _ (.head _))))))
  rcases List.mem_cons.mp hp with rfl | hp
  · exact .head _
  rcases List.mem_cons.mp hp with rfl | hp
  · exact .tail _ (.head _)
  rcases List.mem_cons.mp hp with rfl | hp
  · exact .tail _ (.tail _ (.tail _ (.tail _ (.head _))))
  rcases List.mem_cons.mp hp with rfl | hp
  · exact .tail _ (.tail _ (.tail _ (.tail _ (.tail _ (.head _)))))
  rcases List.mem_cons.mp hp with rfl | hp
  · exact .tail _ (.tail _ (.head _))
  rcases List.mem_cons.mp hp with rfl | hp
  · exact .tail _ (.tail _ (.tail _ (.head _)))
  · exact .tail _ (.tail _ (.tail _ (.tail _ (.tail _ (.tail _ (.tail _ hp))))))
end

end

-- text: EqL
noncomputable def Rd (h : Heap) (v : Value) (d : PyData) : Prop := ∃ as, Reads h v d as
noncomputable def RdA (h : Heap) (vs : List Value) (ds : List PyData) : Prop := ∃ as, ReadsAll h vs ds as
theorem RdA.nil {h : Heap} : RdA h [] [] := ⟨_, .nil⟩
theorem RdA.cons {h : Heap} {v : Value} {d : PyData} {vs : List Value} {ds : List PyData} (a : Rd h v d) (b : RdA h vs ds) : RdA h (v :: vs) (d :: ds) := ⟨_, .cons a.choose_spec b.choose_spec⟩
theorem RdA.append {h : Heap} {ws : List Value} {es : List PyData} (b : RdA h ws es) : ∀ {vs : List Value} {ds : List PyData}, RdA h vs ds → RdA h (vs ++ ws) (ds ++ es)
  | [], _, ⟨_, a⟩ => by cases a; exact b
  | v :: vs, _, ⟨_, a⟩ => by
    cases a with
    | cons x y => exact RdA.cons ⟨_, x⟩ (RdA.append b ⟨_, y⟩)
theorem RdA.map {h : Heap} {α : Type} {f : α → Value} {g : α → PyData} : ∀ {l : List α}, (∀ x ∈ l, Rd h (f x) (g x)) → RdA h (l.map f) (l.map g)
  | [], _ => RdA.nil
  | x :: l, a => RdA.cons (a x (.head _)) (RdA.map fun y hy => a y (.tail _ hy))
theorem Rd.list {h : Heap} {a : Addr} {vs : List Value} {n : Nat} {ds : List PyData} (ho : h.get? a = some (listOf vs.toArray n)) (b : RdA h vs ds) : Rd h (.ref a) (.list ds) := ⟨_, .list ho rfl rfl b.choose_spec⟩
theorem Rd.tuple {h : Heap} {a : Addr} {vs : List Value} {ds : List PyData} (ho : h.get? a = some { cls := .type "tuple", data := .seq vs.toArray }) (b : RdA h vs ds) : Rd h (.ref a) (.tuple ds) := ⟨_, .tuple ho rfl rfl b.choose_spec⟩
noncomputable def OkD (n : Nat) (d : PyData) : Prop := d.canLay0 = true ∧ d.depth ≤ n
theorem okD_all {n : Nat} : ∀ {ds : List PyData}, (∀ d ∈ ds, OkD n d) → PyData.canLayAll0 ds = true ∧ PyData.depthAll ds ≤ n
  | [], _ => ⟨rfl, Nat.zero_le _⟩
  | d :: ds, h => by
    have ih := okD_all (n := n) (ds := ds) fun x hx => h x (.tail _ hx)
    have h0 := h d (.head _)
    refine ⟨?_, ?_⟩
    · rw [PyData.canLayAll0, h0.1, ih.1]; rfl
    · rw [PyData.depthAll]
      exact Nat.max_le.mpr ⟨h0.2, ih.2⟩
theorem OkD.list {n : Nat} {ds : List PyData} (h : ∀ d ∈ ds, OkD n d) : OkD (n + 1) (.list ds) := ⟨by rw [PyData.canLay0]; exact (okD_all h).1, by rw [PyData.depth]; exact Nat.succ_le_succ (okD_all h).2⟩
theorem OkD.tuple {n : Nat} {ds : List PyData} (h : ∀ d ∈ ds, OkD n d) : OkD (n + 1) (.tuple ds) := ⟨by rw [PyData.canLay0]; exact (okD_all h).1, by rw [PyData.depth]; exact Nat.succ_le_succ (okD_all h).2⟩
theorem OkD.str {n : Nat} {x : Str} (h : PyData.strOk x = true) : OkD n (.str x) := ⟨by rw [PyData.canLay0]; exact h, by rw [PyData.depth]; exact Nat.zero_le _⟩
noncomputable def rowD (r : Str × Str × Bool) : PyData := .tuple [.str r.1, .str r.2.1, .int (if r.2.2 = true then 1 else 0), .bool true]
/-- what told and due read as -/
noncomputable def allD (a0 : Nat) (rows : List (Str × Str × Bool)) (SM LG : List Str) : PyData := .list ((List.replicate a0 PyData.none ++ rows.map rowD) ++ [.tuple [.list [], .list (SM.map .str), .list (LG.map .str)]])
theorem allD_ok {a0 : Nat} {rows : List (Str × Str × Bool)} {SM LG : List Str} (h1 : ∀ r ∈ rows, PyData.strOk r.1 = true ∧ PyData.strOk r.2.1 = true) (h2 : ∀ x ∈ SM, PyData.strOk x = true) (h3 : ∀ x ∈ LG, PyData.strOk x = true) : OkD 3 (allD a0 rows SM LG) := by
  have hs : ∀ l : List Str, (∀ x ∈ l, PyData.strOk x = true) → OkD 1 (.list (l.map .str)) := fun l hl => OkD.list (n := 0) fun d hd => by
    obtain ⟨x, hx, rfl⟩ := List.mem_map.mp hd
    exact OkD.str (hl x hx)
  refine OkD.list fun d hd => ?_
  rcases List.mem_append.mp hd with hd | hd
  · rcases List.mem_append.mp hd with hd | hd
    · rw [(List.mem_replicate.mp hd).2]
      exact ⟨rfl, Nat.zero_le _⟩
    · obtain ⟨r, hr, rfl⟩ := List.mem_map.mp hd
      refine OkD.tuple (List.forall_mem_cons.mpr ⟨OkD.str (h1 r hr).1, List.forall_mem_cons.mpr ⟨OkD.str (h1 r hr).2, List.forall_mem_cons.mpr ⟨⟨rfl, Nat.zero_le _⟩, List.forall_mem_cons.mpr ⟨⟨rfl, Nat.zero_le _⟩, List.forall_mem_nil _⟩⟩⟩⟩)
  · rw [List.mem_singleton.mp hd]
    exact OkD.tuple (List.forall_mem_cons.mpr ⟨OkD.list (List.forall_mem_nil _), List.forall_mem_cons.mpr ⟨hs SM h2, List.forall_mem_cons.mpr ⟨hs LG h3, List.forall_mem_nil _⟩⟩⟩)
theorem strs_rd {h : Heap} {l : List (Str × Tok)} {ss : List Str} (e : l.map (·.1) = ss) : RdA h (l.map strO.val) (ss.map .str) := by
  subst e
  rw [List.map_map]
  exact RdA.map fun x _ => ⟨_, .str x.1 x.2⟩
/-- a list of the shape of told reads so -/
theorem all_rd {h₀ h : Heap} {L Tl T1 H D1 D2 : Addr} {a0 nt nh n1 n2 : Nat} {rows : List PRow} {zs1 zs2 : List (Str × Tok)} {SM LG : List Str} {news : Led} (N : News h₀ L h news) (hT : (Tl, listOf (toldOf a0 rows ++ [Value.ref T1]).toArray nt) ∈ news) (hr : ∀ r ∈ rows, r.ent ∈ news)
    (h1 : (T1, { cls := .type "tuple", data := .seq #[.ref H, .ref D1, .ref D2] }) ∈ news) (hH : (H, listOf #[] nh) ∈ news) (hD1 : (D1, listOf (zs1.map strO.val).toArray n1) ∈ news) (hD2 : (D2, listOf (zs2.map strO.val).toArray n2) ∈ news) (e1 : zs1.map (·.1) = SM) (e2 : zs2.map (·.1) = LG) :
    Rd h (.ref Tl) (allD a0 (rows.map PRow.plain) SM LG) := by
  refine Rd.list (N _ hT).1 (RdA.append (RdA.cons (Rd.tuple (vs := [.ref H, .ref D1, .ref D2]) (N _ h1).1 (RdA.cons (Rd.list (vs := []) (N _ hH).1 RdA.nil) (RdA.cons (Rd.list (N _ hD1).1 (strs_rd e1)) (RdA.cons (Rd.list (N _ hD2).1 (strs_rd e2)) RdA.nil)))) RdA.nil) ?_)
  unfold toldOf
  refine RdA.append ?_ ?_
  · rw [List.map_map]
    refine RdA.map fun r hm => ?_
    exact Rd.tuple (vs := [.str r.p.1 r.p.2, .str r.md.1 r.md.2, .int (if r.a = true then 1 else 0) r.ta, .bool true]) (N _ (hr r hm)).1 (RdA.cons ⟨_, .str _ _⟩ (RdA.cons ⟨_, .str _ _⟩ (RdA.cons ⟨_, .int _ _⟩ (RdA.cons ⟨_, .bool _⟩ RdA.nil))))
  · rw [← List.map_replicate (f := fun _ => Value.none) (a := ()), ← List.map_replicate (f := fun _ => PyData.none) (a := ())]
    exact RdA.map fun _ _ => ⟨_, .none⟩
theorem eq_all {prog : Program} {w : World} {A : Around} {E : Value → Shared → Prop} {s : Shared} {a b : Addr} {d : PyData} {n : Nat} {Q : Value → Shared → Prop} (h1 : Rd s.heap (.ref a) d) (h2 : Rd s.heap (.ref b) d) (hd : OkD n d) (hn : n ≤ 64) (hu : A.units + 64 < cLine) (h : Q (.bool true) s) :
    wpAny (model prog w) A (compareOp .Eq (.ref a) (.ref b)) Q E s := by
  have hs : PySem.SeqAt.shaped d = true := by
    unfold PySem.SeqAt.shaped
    rw [hd.1, decide_eq_true (Nat.le_trans hd.2 hn)]; rfl
  refine eq_dataH h1.choose_spec h2.choose_spec hs hs hu ?_
  rw [PySem.SeqAt.eqv_refl d hd.1]
  exact h

-- text: Law17
section
variable {w : World} {mean : ExcName → Option Value} {mg mb : Str → Option Value} {h₀ base : Heap} {L fa : Addr} {cd : Value} {m : Str → Option Value} {s : Shared} {Q : Flow → Shared → Prop} {E : Value → Shared → Prop}
theorem law17 (B : Below callerA base [] h₀) (F : Fr h₀ L s.heap m) (T : Top q0 (looseW q0 loose0) mean mg mb h₀) {Tl U : Addr} {d : PyData} {n : Nat} (r1 : Rd s.heap (.ref Tl) d) (r2 : Rd s.heap (.ref U) d) (hd9 : OkD n d) (hn : n ≤ 64)
    (mT : m (Str.ofString "told") = some (.ref Tl)) (mU : m (Str.ofString "due") = some (.ref U)) (next : Q (.ret (.bool true)) s) :
    (hd.heap_1 w.params).In h₀ → lawWp w L fa cd 17 Q E s := by
  have mk40 : True := .intro
  unfold lawWp
  k_fill
  intro X
  k_with "m:own" => ((fail_if_success fail_if_success clear mk40); (((with_reducible show wpAny _ _ (eval (PySem.Expr.Name _ _) (envOfC _ _ _ _ _)) _ _ _); k_dflt (refine' nameX_L ?F ?v ?_ ?a ?b; (case F => k_asm); (case v => with_reducible assumption); (case a => rfl); (case b => rfl); k_whole))))
  k_with "m:stop" => ((fail_if_success fail_if_success clear mk40); ((with_reducible show wpAny _ _ (compareOp _ _ _) _ _ _)))
  k_extra "m:steps"
  k_dflt (refine eq_all r1 r2 hd9 hn (by first | ktr_units | ke_room) ?_)
  exact next
end

-- text: StemL
section
open PySem.StrLaws PySem.Builtin PySem.Builtin.Str
noncomputable abbrev tl (x : Str) : List Nat := x.cps.toList
theorem tl_len (x : Str) : (tl x).length = x.length := by simp [Str.length]
theorem tl_ext {a b : Str} (h : tl a = tl b) : a = b := str_ext h
theorem tl_slice {x : Str} {a b : Nat} (hab : a ≤ b) (hb : b ≤ x.length) : tl (Txt.slice x (some (a : Int)) (some (b : Int))) = ((tl x).drop a).take (b - a) := by
  unfold Txt.slice
  split
  · rename_i h
    rw [Bool.and_eq_true] at h
    have h2 := eq_of_beq h.2
    rw [strSliceIndices_plain hab hb, List.length_map, List.length_range] at h2
    have ha : a = 0 := by lia
    subst ha
    rw [List.drop_zero, List.take_of_length_le]
    rw [tl_len]; lia
  · have := sliced_plain x hab hb
    show (List.filterMap _ _).toArray.toList = _
    exact this
theorem slice_lo (x : Str) (u : Option Int) : Txt.slice x none u = Txt.slice x (some (0 : Nat)) u := by
  unfold Txt.slice
  rw [sliceIdx_none_lo]
  rfl
theorem slice_hi (x : Str) (l : Option Int) : Txt.slice x l none = Txt.slice x l (some (x.length : Nat)) := by
  unfold Txt.slice
  rw [sliceIdx_none_hi]
theorem tl_upto {x : Str} {b : Nat} (hb : b ≤ x.length) : tl (Txt.slice x none (some (b : Int))) = (tl x).take b := by
  rw [slice_lo, tl_slice (Nat.zero_le _) hb]
  rfl
theorem tl_from {x : Str} {a : Nat} (ha : a ≤ x.length) : tl (Txt.slice x (some (a : Int)) none) = (tl x).drop a := by
  rw [slice_hi, tl_slice ha (Nat.le_refl _), List.take_of_length_le]
  rw [List.length_drop, tl_len]; lia
theorem occ_run (x : Str) (c limit : Nat) : ∀ (l : List Nat) (st : Array Nat × Nat), (∀ i ∈ l, st.2 ≤ i) → l.Pairwise (· < ·) → st.1.size + l.length ≤ limit →
    (forIn l st (occBody x ⟨#[c]⟩ x.length limit)).run.fst.toList = st.1.toList ++ l.filter fun i => decide ((tl x)[i]? = some c)
  | [], st, _, _, _ => by simp
  | a :: l, st, hf, hp, hs => by
    have hp' := List.pairwise_cons.mp hp
    have ha : st.2 ≤ a := hf a (.head _)
    rw [List.length_cons] at hs
    rw [List.forIn_cons]
    unfold occBody
    by_cases hc : (tl x)[a]? = some c
    · have h1 := (subAt_one x c a).mpr hc
      rw [if_pos ⟨⟨⟨by lia, ha⟩, h1.1⟩, h1.2⟩, List.filter_cons_of_pos (by simpa using hc)]
      have := occ_run x c limit l (st.fst.push a, a + (⟨#[c]⟩ : Str).length) (fun i hi => hp'.1 i hi) hp'.2 (by simp; lia)
      refine this.trans ?_
      simp
    · rw [if_neg (fun h => hc ((subAt_one x c a).mp ⟨h.1.2, h.2⟩)), List.filter_cons_of_neg (by simpa using hc)]
      exact occ_run x c limit l st (fun i hi => hf i (.tail _ hi)) hp'.2 (by lia)
theorem occ_one (x : Str) (c : Nat) : occurrences x ⟨#[c]⟩ 0 x.length (x.length + 1) = (List.range' 0 (x.length + 1)).filter fun i => decide ((tl x)[i]? = some c) := by
  rw [occ_eq]
  have := occ_run x c (x.length + 1) (List.range' 0 (x.length + 1 - 0)) (#[], 0) (fun _ _ => Nat.zero_le _) (by simpa using List.pairwise_lt_range' (s := 0) (n := x.length + 1 - 0)) (by simp)
  simpa using this
theorem parts_last (x : Str) (k : Nat) : ∀ (cs : List Nat) (a : Nat), ∃ init, init ≠ [] ∧ partsFrom x 1 a (cs ++ [k]) = init ++ [strSub x (k + 1) x.length]
  | [], a => ⟨[strSub x a k], List.cons_ne_nil _ _, rfl⟩
  | c :: cs, a => by
    obtain ⟨init, h1, h2⟩ := parts_last x k cs (c + 1)
    refine ⟨strSub x a c :: init, List.cons_ne_nil _ _, ?_⟩
    show strSub x a c :: partsFrom x 1 (c + 1) (cs ++ [k]) = _
    rw [h2]; rfl
theorem join_snoc (y l : Str) : ∀ init : List Str, init ≠ [] → Str.join y (init ++ [l]) = Str.join y init ++ y ++ l
  | [], h => absurd rfl h
  | [a], _ => rfl
  | a :: b :: r, _ => by
    have ih := join_snoc y l (b :: r) (List.cons_ne_nil _ _)
    show a ++ y ++ Str.join y ((b :: r) ++ [l]) = (a ++ y ++ Str.join y (b :: r)) ++ y ++ l
    rw [ih]
    simp only [Str.append_assoc]
theorem filter_last {p : Nat → Bool} : ∀ (n : Nat), ((List.range' 0 n).filter p = [] ∧ ∀ i, i < n → p i = false) ∨ ∃ cs k, (List.range' 0 n).filter p = cs ++ [k] ∧ k < n ∧ p k = true ∧ ∀ j, k < j → j < n → p j = false
  | 0 => .inl ⟨rfl, fun i h => absurd h (Nat.not_lt_zero _)⟩
  | n + 1 => by
    rw [List.range'_1_concat, List.filter_append, Nat.zero_add]
    cases hp : p n with
    | true => exact .inr ⟨_, n, by rw [List.filter_cons_of_pos hp]; rfl, Nat.lt_succ_self _, hp, fun j h1 h2 => by lia⟩
    | false =>
      rw [List.filter_cons_of_neg (by simp [hp]), List.filter_nil, List.append_nil]
      rcases filter_last (p := p) n with ⟨h1, h2⟩ | ⟨cs, k, h1, h2, h3, h4⟩
      · refine .inl ⟨h1, fun i hi => ?_⟩
        rcases Nat.lt_succ_iff_lt_or_eq.mp hi with h | rfl
        · exact h2 i h
        · exact hp
      · refine .inr ⟨cs, k, h1, Nat.lt_succ_of_lt h2, h3, fun j hj hi => ?_⟩
        rcases Nat.lt_succ_iff_lt_or_eq.mp hi with h | rfl
        · exact h4 j hj h
        · exact hp
/-- the last sign c stands at k -/
noncomputable def LastAt (l : List Nat) (c k : Nat) : Prop := l[k]? = some c ∧ ∀ j, k < j → l[j]? ≠ some c
theorem lastAt_uniq {l : List Nat} {c j k : Nat} (h1 : LastAt l c j) (h2 : LastAt l c k) : j = k := by
  rcases Nat.lt_trichotomy j k with h | h | h
  · exact absurd h2.1 (h1.2 k h)
  · exact h
  · exact absurd h1.1 (h2.2 j h)
theorem get_none {l : List Nat} {c j : Nat} (h : l.length ≤ j) : l[j]? ≠ some c := by rw [List.getElem?_eq_none h]; exact nofun
theorem split_last (x : Str) (c : Nat) (hc : c < 256) : (Txt.split x ⟨#[c]⟩ = [x] ∧ ∀ j : Nat, (tl x)[j]? ≠ some c) ∨ ∃ init k, Txt.split x ⟨#[c]⟩ = init ++ [strSub x (k + 1) x.length] ∧ LastAt (tl x) c k ∧ tl (Txt.join ⟨#[c]⟩ init) = (tl x).take k := by
  have hocc := occ_one x c
  rcases filter_last (p := fun i => decide ((tl x)[i]? = some c)) (x.length + 1) with ⟨h1, h2⟩ | ⟨cs, k, h1, h2, h3, h4⟩
  · refine .inl ⟨?_, fun j hj => ?_⟩
    · unfold Txt.split
      rw [hocc, h1]
      split <;> rfl
    · have hl : j < (tl x).length := (List.getElem?_eq_some_iff.mp hj).1
      rw [tl_len] at hl
      have := h2 j (by lia)
      rw [decide_eq_false_iff_not] at this
      exact this hj
  · have hk : (tl x)[k]? = some c := of_decide_eq_true h3
    have hkl : k < (tl x).length := (List.getElem?_eq_some_iff.mp hk).1
    have hkx : k < x.length := by rw [tl_len] at hkl; exact hkl
    have hlast : LastAt (tl x) c k := ⟨hk, fun j hj => by
      by_cases hjl : j < x.length + 1
      · have := h4 j hj hjl
        exact of_decide_eq_false this
      · exact get_none (by rw [tl_len]; lia)⟩
    obtain ⟨init, hi, he⟩ := parts_last x k cs 0
    have hs : Txt.split x ⟨#[c]⟩ = init ++ [strSub x (k + 1) x.length] := by
      unfold Txt.split
      have hsk : Builtin.Str.strKind ⟨#[c]⟩ = 1 := by simp [Builtin.Str.strKind, hc]
      have hsx : ¬ Builtin.Str.strKind x < Builtin.Str.strKind ⟨#[c]⟩ := by
        rw [hsk]; unfold Builtin.Str.strKind
        split
        · lia
        · split <;> lia
      have hln : ¬ x.length < (⟨#[c]⟩ : Str).length := by
        show ¬ x.length < 1; lia
      rw [if_neg (by simp [hsx, hln]), hocc, h1, if_neg (by simp), partsBetween_eq]
      exact he
    have hj := join_split x ⟨#[c]⟩
    rw [hs, join_snoc _ _ _ hi] at hj
    refine .inr ⟨init, k, hs, hlast, ?_⟩
    have e1 : Txt.join ⟨#[c]⟩ init = Str.join ⟨#[c]⟩ init := glued_eq_join _ _
    rw [e1]
    have e2 := congrArg tl hj
    have e3 : tl (Str.join ⟨#[c]⟩ init ++ ⟨#[c]⟩ ++ strSub x (k + 1) x.length) = (tl (Str.join ⟨#[c]⟩ init) ++ [c]) ++ (tl x).drop (k + 1) := by
      simp only [tl, Str.cps_append, Array.toList_append, strSub_toList]
      congr 1
      rw [List.take_of_length_le]
      rw [List.length_drop]
      have : x.cps.toList.length = x.length := tl_len x
      lia
    rw [e3] at e2
    have e4 : (tl (Str.join ⟨#[c]⟩ init) ++ [c]).length = k + 1 := by
      have := congrArg List.length e2
      rw [List.length_append, List.length_drop] at this
      lia
    have e5 : tl (Str.join ⟨#[c]⟩ init) ++ [c] = (tl x).take (k + 1) := by
      rw [← e2, ← e4, List.take_left']
      rfl
    have e6 : (tl (Str.join ⟨#[c]⟩ init)).length = k := by
      rw [List.length_append, List.length_singleton] at e4; lia
    have e7 := congrArg (List.take k) e5
    rw [List.take_take, List.take_left' e6] at e7
    rw [e7]
    congr 1
    lia
theorem rfind_one (x : Str) (c : Nat) : (Txt.rfind x ⟨#[c]⟩ = -1 ∧ ∀ j : Nat, (tl x)[j]? ≠ some c) ∨ ∃ k : Nat, Txt.rfind x ⟨#[c]⟩ = (k : Int) ∧ LastAt (tl x) c k := by
  unfold Txt.rfind
  rcases last_spec x ⟨#[c]⟩ with ⟨h1, h2⟩ | ⟨k, h1, h2, h3⟩
  · rw [h1]
    exact .inl ⟨rfl, fun j hj => h2 j ((subAt_one x c j).mpr hj)⟩
  · rw [h1]
    exact .inr ⟨k, rfl, (subAt_one x c k).mp h2, fun j hj hh => h3 j hj ((subAt_one x c j).mpr hh)⟩
theorem lastOf_snoc (l : List Str) (x : Str) : lastOf (l ++ [x]) = x := by simp [lastOf]
theorem base_last (p : Str) : lastOf (Txt.split p (Str.ofString "/")) = baseOf p ∧ ∀ j : Nat, (tl (baseOf p))[j]? ≠ some 47 := by
  have e : Str.ofString "/" = ⟨#[47]⟩ := by rfl
  unfold baseOf
  rw [e]
  rcases split_last p 47 (by decide) with ⟨h1, h2⟩ | ⟨init, k, h1, h2, h3⟩
  · rcases rfind_one p 47 with ⟨h4, _⟩ | ⟨k, _, h5⟩
    · rw [h1, h4]
      have e2 : Txt.slice p (some (-1 + 1)) none = p := tl_ext ((tl_from (x := p) (a := 0) (Nat.zero_le _)).trans rfl)
      rw [e2]
      exact ⟨rfl, h2⟩
    · exact absurd h5.1 (h2 k)
  · rcases rfind_one p 47 with ⟨_, h5⟩ | ⟨k', h4, h5⟩
    · exact absurd h2.1 (h5 k)
    · have := lastAt_uniq h2 h5
      subst this
      have hk := (List.getElem?_eq_some_iff.mp h2.1).1
      rw [tl_len] at hk
      rw [h1, lastOf_snoc, h4]
      have e2 : tl (Txt.slice p (some ((k : Int) + 1)) none) = (tl p).drop (k + 1) := tl_from (x := p) (a := k + 1) hk
      refine ⟨tl_ext ?_, fun j => ?_⟩
      · rw [e2]
        show (strSub p (k + 1) p.length).cps.toList = _
        rw [strSub_toList, List.take_of_length_le]
        rw [List.length_drop]
        have : p.cps.toList.length = p.length := tl_len p
        lia
      · rw [e2, List.getElem?_drop]
        exact h2.2 _ (by lia)
/-- a dot behind another sign -/
noncomputable def DotAfter (l : List Nat) : Prop := ∃ j k : Nat, j < k ∧ l[j]? ≠ some 46 ∧ l[k]? = some 46
theorem dotAfter_iff : ∀ l : List Nat, 46 ∈ l.drop (l.takeWhile fun c => c == 46).length ↔ DotAfter l
  | [] => ⟨fun h => absurd h List.not_mem_nil, fun ⟨_, k, _, _, h⟩ => absurd h (get_none (Nat.zero_le _))⟩
  | a :: r => by
    have ih := dotAfter_iff r
    by_cases h : a = 46
    · subst h
      rw [List.takeWhile_cons_of_pos (by rfl), List.length_cons, List.drop_succ_cons, ih]
      constructor
      · rintro ⟨j, k, h1, h2, h3⟩
        exact ⟨j + 1, k + 1, by lia, h2, h3⟩
      · rintro ⟨j, k, h1, h2, h3⟩
        cases j with
        | zero => exact absurd rfl h2
        | succ j =>
          cases k with
          | zero => lia
          | succ k => exact ⟨j, k, by lia, h2, h3⟩
    · rw [List.takeWhile_cons_of_neg (by simpa using h), List.length_nil, List.drop_zero]
      constructor
      · intro hm
        obtain ⟨k, hk⟩ := List.mem_iff_getElem?.mp hm
        cases k with
        | zero => exact absurd (Option.some.inj hk) h
        | succ k => exact ⟨0, k + 1, by lia, fun e => h (Option.some.inj e), hk⟩
      · rintro ⟨j, k, h1, h2, h3⟩
        exact List.mem_of_getElem? h3
theorem tl_lstrip (b : Str) : tl (Txt.lstripChars b (Str.ofString ".")) = (tl b).drop ((tl b).takeWhile fun c => c == 46).length := by
  have e : (Str.ofString ".").cps.contains = fun c : Nat => c == 46 := by
    funext c
    show (#[46] : Array Nat).contains c = _
    simp [Array.contains]
  unfold Txt.lstripChars Txt.stripBy
  rw [e]
  split
  · rename_i h
    unfold stripSame at h
    rw [Bool.and_eq_true] at h
    have h1 : stripLo (fun c => c == 46) true b = 0 := eq_of_beq h.1
    have h1 : ((tl b).takeWhile fun c => c == 46).length = 0 := h1
    rw [h1]; rfl
  · show (strSub b _ _).cps.toList = _
    rw [strSub_toList]
    show ((tl b).drop ((tl b).takeWhile fun c => c == 46).length).take _ = _
    rw [List.take_of_length_le]
    rw [List.length_drop, tl_len]
    exact Nat.le_refl _
theorem hasDot_iff (b : Str) : hasDot (Txt.lstripChars b (Str.ofString ".")) = true ↔ DotAfter (tl b) := by
  unfold hasDot
  have e : Str.ofString "." = ⟨#[46]⟩ := by rfl
  have h := found_one (Txt.lstripChars b (Str.ofString ".")) 46
  rw [← e] at h
  rw [h, decide_eq_true_iff, ← dotAfter_iff, ← tl_lstrip]
theorem slice_dot {b : Str} {i : Nat} (hi : i < b.length) : Txt.slice b (some (i : Int)) (some ((i : Int) + 1)) = Str.ofString "." ↔ (tl b)[i]? = some 46 := by
  have e := tl_slice (x := b) (a := i) (b := i + 1) (by lia) hi
  have e2 : (Txt.slice b (some (i : Int)) (some ((i : Int) + 1)) = Str.ofString ".") ↔ ((tl b).drop i).take 1 = [46] := by
    rw [show i + 1 - i = 1 by lia] at e
    constructor
    · intro h
      rw [← e]
      exact congrArg tl h
    · intro h
      exact tl_ext (e.trans h)
  rw [e2, ← beq_iff_eq, take1_drop]
/-- what splitext leaves of a path's last part is the module that the law tells -/
theorem stem_mod {p f : Str} (h : Stem (baseOf p) f) : f = lawMod p := by
  obtain ⟨h1, h2⟩ := base_last p
  unfold lawMod
  rw [h1]
  generalize baseOf p = b at *
  have e47 : Str.ofString "/" = ⟨#[47]⟩ := by rfl
  have e46 : Str.ofString "." = ⟨#[46]⟩ := by rfl
  unfold Stem at h
  have hlo : Txt.rfind b (Str.ofString "/") = -1 := by
    rw [e47]
    rcases rfind_one b 47 with ⟨h4, _⟩ | ⟨k, _, h5⟩
    · exact h4
    · exact absurd h5.1 (h2 k)
  rw [hlo] at h
  have hdot := rfind_one b 46
  rw [← e46] at hdot
  rcases h with ⟨hall, rfl⟩ | ⟨hall, rfl⟩
  · rw [if_neg]
    rw [hasDot_iff]
    rintro ⟨j, k, hjk, hj, hk⟩
    rcases hdot with ⟨_, h5⟩ | ⟨k', h4, h5⟩
    · exact absurd hk (h5 k)
    · have hkk : k ≤ k' := by
        rcases Nat.lt_or_ge k' k with h | h
        · exact absurd hk (h5.2 k h)
        · exact h
      have hkl := (List.getElem?_eq_some_iff.mp hk).1
      rw [tl_len] at hkl
      exact hj ((slice_dot (by lia)).mp (hall j (by lia) (by rw [h4]; lia)))
  · rcases hdot with ⟨h4, h5⟩ | ⟨k, h4, h5⟩
    · exact absurd (fun i h6 h7 => by rw [h4] at h7; lia) hall
    · have hkl := (List.getElem?_eq_some_iff.mp h5.1).1
      rw [tl_len] at hkl
      have hda : DotAfter (tl b) := by
        refine Classical.byContradiction fun hn => hall fun i h6 h7 => ?_
        rw [h4] at h7
        obtain ⟨i, rfl⟩ : ∃ n : Nat, i = n := ⟨i.toNat, by lia⟩
        refine (slice_dot (by lia)).mpr (Classical.byContradiction fun hi => hn ⟨i, k, by lia, hi, h5.1⟩)
      rw [if_pos ((hasDot_iff b).mpr hda), h4]
      rcases split_last b 46 (by decide) with ⟨_, h7⟩ | ⟨init, k', h6, h7, h8⟩
      · exact absurd h5.1 (h7 k)
      · have := lastAt_uniq h5 h7
        subst this
        rw [e46, h6, List.dropLast_concat]
        exact tl_ext ((tl_upto (by lia)).trans h8.symm)
theorem slice_sub (x : Str) (l u : Option Int) : ∀ c ∈ tl (Txt.slice x l u), c ∈ tl x := by
  unfold Txt.slice
  split
  · exact fun _ h => h
  · intro c hc
    obtain ⟨i, _, hi⟩ := List.mem_filterMap.mp hc
    rw [← Array.getElem?_toList] at hi
    exact List.mem_of_getElem? hi
/-- the module is no longer than the path, and has no other signs -/
theorem mod_sub (p : Str) : (lawMod p).length ≤ p.length ∧ ∀ c ∈ tl (lawMod p), c ∈ tl p := by
  have hb1 : (baseOf p).length ≤ p.length := Txt.slice_le _ _ _
  have hb2 : ∀ c ∈ tl (baseOf p), c ∈ tl p := slice_sub _ _ _
  by_cases h : AllDots (baseOf p) (Txt.rfind (baseOf p) (Str.ofString "/") + 1) (Txt.rfind (baseOf p) (Str.ofString "."))
  · rw [← stem_mod (.inl ⟨h, rfl⟩)]
    exact ⟨hb1, hb2⟩
  · rw [← stem_mod (.inr ⟨h, rfl⟩)]
    exact ⟨Nat.le_trans (Txt.slice_le _ _ _) hb1, fun c hc => hb2 c (slice_sub _ _ _ c hc)⟩

end

-- text: AnsL
section
open PySem.StrLaws PySem.Builtin PySem.Builtin.Str
theorem slice_big {x : Str} {n : Nat} (h : x.length ≤ n) : Txt.slice x none (some (n : Int)) = x := by
  have e : strSliceIndices none (some (n : Int)) 1 x.length = strSliceIndices none (some (x.length : Int)) 1 x.length := by
    have h1 : ¬ ((n : Int) < 0) := by lia
    have h2 : ¬ ((x.length : Int) < 0) := by lia
    have e1 : min (n : Int) (x.length : Int) = x.length := by lia
    have e2 : min (x.length : Int) (x.length : Int) = x.length := by lia
    simp only [strSliceIndices, sliceRange, h1, h2, if_false, e1, e2, show ((1 : Int) > 0) = True from by simp, if_true]
  have : Txt.slice x none (some (n : Int)) = Txt.slice x none (some (x.length : Int)) := by
    unfold Txt.slice
    rw [e]
  rw [this]
  refine tl_ext ((tl_upto (Nat.le_refl _)).trans (List.take_of_length_le ?_))
  rw [tl_len]; exact Nat.le_refl _
theorem tl_take (x : Str) (n : Nat) : tl (Txt.slice x none (some (n : Int))) = (tl x).take n := by
  rcases Nat.le_total n x.length with h | h
  · exact tl_upto h
  · rw [slice_big h, List.take_of_length_le]
    rw [tl_len]; exact h
theorem tl_app (a b : Str) : tl (a ++ b) = tl a ++ tl b := by simp only [tl, Str.cps_append, Array.toList_append]
theorem starts_iff (x y : Str) : Txt.startswith x y = true ↔ tl y <+: tl x := by
  unfold Txt.startswith
  rw [Bool.and_eq_true, decide_eq_true_iff, subAt_eq, List.drop_zero, beq_iff_eq, List.prefix_iff_eq_take, ← tl_len, ← tl_len]
  constructor
  · exact fun h => h.2.symm
  · intro h
    refine ⟨?_, h.symm⟩
    have := congrArg List.length h
    rw [List.length_take] at this
    lia
theorem slice_iff (x y : Str) : (Txt.slice x none (some (y.length : Int)) == y) = true ↔ tl y <+: tl x := by
  rw [beq_iff_eq, List.prefix_iff_eq_take, tl_len]
  constructor
  · intro h
    rw [← tl_take, h]
  · intro h
    exact tl_ext ((tl_take x y.length).trans h.symm)
theorem blw_iff (least name : Str) : blw least name = true ↔ tl name <+: tl least := slice_iff least name
theorem abv_iff (md name : Str) : abv md name = true ↔ name = md ∨ tl (name ++ Str.ofString ".") <+: tl md := by
  have e1 : ((name ++ Str.ofString ".").length : Int) = ((name.length + 1 : Nat) : Int) := by rw [Str.length_append]; rfl
  have h := slice_iff (md ++ Str.ofString ".") (name ++ Str.ofString ".")
  rw [e1] at h
  unfold abv
  rw [h, tl_app, tl_app]
  have e46 : tl (Str.ofString ".") = [46] := by rfl
  rw [e46, List.prefix_concat_iff]
  constructor
  · rintro (h | h)
    · exact .inl (tl_ext (List.append_cancel_right h))
    · exact .inr h
  · rintro (h | h)
    · exact .inl (by rw [h])
    · exact .inr h
theorem filt_any {α : Type} (p : α → Bool) : ∀ l : List α, (l.filter p).isEmpty = !l.any p
  | [] => rfl
  | x :: l => by
    rw [List.filter_cons, List.any_cons]
    cases hp : p x
    · exact filt_any p l
    · rfl
theorem empty_app {α : Type} (a b : List α) : (a ++ b).isEmpty = (a.isEmpty && b.isEmpty) := by cases a <;> rfl
theorem fm_congr {α β : Type} {f g : α → Option β} : ∀ {l : List α}, (∀ x ∈ l, f x = g x) → l.filterMap f = l.filterMap g
  | [], _ => rfl
  | x :: l, h => by
    rw [List.filterMap_cons, List.filterMap_cons, h x (.head _), fm_congr fun y hy => h y (.tail _ hy)]
/-- the answer of `names` for the module's least path is the answer due -/
theorem ans_eq {mods es pls : List (Str × Tok)} {dirs : List Str} (h1 : es.map (·.1) = dirs.map plainOf) (h2 : pls.map (·.1) = dirs.map fun d => plainOf d ++ Str.ofString "/") (f md : Str) : nameAns mods es f md = dueAns mods pls f md := by
  unfold nameAns dueAns hasMod hasDir
  rw [empty_app, filt_any, filt_any, ← Bool.not_or, Bool.not_not]
  have hm : (decide (md ∈ mods.map (·.1)) || mods.any fun y => Txt.startswith md (y.1 ++ Str.ofString ".")) = mods.any fun p => abv md p.1 := by
    rw [Bool.eq_iff_iff, Bool.or_eq_true, decide_eq_true_iff, List.mem_map, List.any_eq_true, List.any_eq_true]
    constructor
    · rintro (⟨y, hy, e⟩ | ⟨y, hy, e⟩)
      · exact ⟨y, hy, (abv_iff md y.1).mpr (.inl e)⟩
      · exact ⟨y, hy, (abv_iff md y.1).mpr (.inr ((starts_iff _ _).mp e))⟩
    · rintro ⟨y, hy, e⟩
      rcases (abv_iff md y.1).mp e with e | e
      · exact .inl ⟨y, hy, e⟩
      · exact .inr ⟨y, hy, (starts_iff _ _).mpr e⟩
  have hd : (es.any fun y => Txt.startswith f (y.1 ++ Str.ofString "/")) = pls.any fun p => blw f p.1 := by
    rw [Bool.eq_iff_iff, List.any_eq_true, List.any_eq_true]
    constructor
    · rintro ⟨y, hy, e⟩
      have m1 : y.1 ∈ es.map (·.1) := List.mem_map.mpr ⟨y, hy, rfl⟩
      rw [h1] at m1
      obtain ⟨d, hd, e2⟩ := List.mem_map.mp m1
      have m2 : plainOf d ++ Str.ofString "/" ∈ pls.map (·.1) := by rw [h2]; exact List.mem_map.mpr ⟨d, hd, rfl⟩
      obtain ⟨z, hz, e3⟩ := List.mem_map.mp m2
      exact ⟨z, hz, by rw [blw_iff, e3, e2]; exact (starts_iff _ _).mp e⟩
    · rintro ⟨z, hz, e⟩
      have m1 : z.1 ∈ pls.map (·.1) := List.mem_map.mpr ⟨z, hz, rfl⟩
      rw [h2] at m1
      obtain ⟨d, hd, e2⟩ := List.mem_map.mp m1
      have m2 : plainOf d ∈ es.map (·.1) := by rw [h1]; exact List.mem_map.mpr ⟨d, hd, rfl⟩
      obtain ⟨y, hy, e3⟩ := List.mem_map.mp m2
      exact ⟨y, hy, by rw [starts_iff, e3, e2]; exact (blw_iff _ _).mp e⟩
  rw [hm, hd]
theorem writ_plain : ∀ i, i < 4 → plain4.getD i default = plainOf (writ4.getD i default) ++ Str.ofString "/" := by decide +kernel
theorem picked_plain (total : Int) : picked total 4 plain4 4 = (picked total 4 writ4 4).map fun d => plainOf d ++ Str.ofString "/" := by
  unfold picked
  rw [List.map_filterMap]
  refine fm_congr fun i hi => ?_
  have := writ_plain i (List.mem_range.mp hi)
  split
  · rw [Option.map_some, this]
  · rfl
theorem picked_mem {total : Int} {off n : Nat} {nm : List Str} {x : Str} (h : x ∈ picked total off nm n) : ∃ i, i < n ∧ x = nm.getD i default := by
  unfold picked at h
  obtain ⟨i, hi, e⟩ := List.mem_filterMap.mp h
  split at e
  · exact ⟨i, List.mem_range.mp hi, (Option.some.inj e).symm⟩
  · cases e
theorem picked_len (total : Int) (off n : Nat) (nm : List Str) : (picked total off nm n).length ≤ n := by
  unfold picked
  have := List.length_filterMap_le (fun i => if (total.fdiv (2 ^ (i + off))).fmod 2 = 1 then some (nm.getD i default) else none) (List.range n)
  rwa [List.length_range] at this
theorem mods_inj : ∀ i, i < 4 → ∀ j, j < 4 → mods4.getD i default = mods4.getD j default → i = j := by decide +kernel
theorem picked_nodup (total : Int) : (picked total 0 mods4 4).Nodup := by
  unfold picked
  refine List.Pairwise.filterMap _ (R := fun a b => a ≠ b ∧ a < 4 ∧ b < 4) (fun a a' h b hb b' hb' => ?_) ?_
  · split at hb
    · split at hb'
      · rw [← Option.some.inj hb, ← Option.some.inj hb']
        exact fun e => h.1 (mods_inj a h.2.1 a' h.2.2 e)
      · cases hb'
    · cases hb
  · exact (List.Pairwise.imp_of_mem (R := fun a b => a ≠ b) (fun {a b} ha hb h => ⟨h, List.mem_range.mp ha, List.mem_range.mp hb⟩) List.nodup_range)
theorem dirs_ok : ∀ i, i < 4 → DirOk (writ4.getD i default) := by
  intro i hi
  have : i = 0 ∨ i = 1 ∨ i = 2 ∨ i = 3 := by lia
  unfold DirOk
  rcases this with rfl | rfl | rfl | rfl <;> exact ⟨by decide +kernel, by decide +kernel, by unfold RootOk; decide +kernel, by decide +kernel, by decide +kernel⟩
theorem join_signs {P : Nat → Prop} {sep : Str} (hs : ∀ c ∈ tl sep, P c) : ∀ parts : List Str, (∀ x ∈ parts, ∀ c ∈ tl x, P c) → ∀ c ∈ tl (Str.join sep parts), P c
  | [], _ => fun c hc => absurd hc List.not_mem_nil
  | [x], h => h x (.head _)
  | x :: y :: r, h => by
    have ih := join_signs hs (y :: r) fun z hz => h z (.tail _ hz)
    intro c hc
    have e : Str.join sep (x :: y :: r) = x ++ sep ++ Str.join sep (y :: r) := rfl
    rw [e, tl_app, tl_app] at hc
    rcases List.mem_append.mp hc with hc | hc
    · rcases List.mem_append.mp hc with hc | hc
      · exact h x (.head _) c hc
      · exact hs c hc
    · exact ih c hc
theorem sign_in (x : Int) (i : Nat) : sign x i ∈ [Str.ofString "", Str.ofString "/", Str.ofString ".", Str.ofString "a", Str.ofString "b"] := by
  unfold sign
  have h := fmod5 (x.fdiv (5 ^ i))
  have : ((x.fdiv (5 ^ i)).fmod 5).toNat = 0 ∨ ((x.fdiv (5 ^ i)).fmod 5).toNat = 1 ∨ ((x.fdiv (5 ^ i)).fmod 5).toNat = 2 ∨ ((x.fdiv (5 ^ i)).fmod 5).toNat = 3 ∨ ((x.fdiv (5 ^ i)).fmod 5).toNat = 4 := by lia
  rcases this with e | e | e | e | e <;> rw [e] <;> simp
theorem path_short (x : Int) : (pathOf x).length ≤ 7 ∧ PyData.strOk (pathOf x) = true := by
  have hmem : ∀ s ∈ (signs x).take ((signs x).idxOf (Str.ofString "")), s.length ≤ 1 ∧ ∀ c ∈ tl s, c < 0x110000 := by
    intro s hs
    have hs := List.mem_of_mem_take hs
    unfold signs at hs
    rcases List.mem_append.mp hs with hs | hs
    · obtain ⟨i, _, rfl⟩ := List.mem_map.mp hs
      have h5 := sign_in x i
      simp only [List.mem_cons, List.not_mem_nil, or_false] at h5
      rcases h5 with e | e | e | e | e <;> rw [e] <;> decide
    · rw [List.mem_singleton.mp hs]; decide
  have hidx : (signs x).idxOf (Str.ofString "") ≤ 7 := by
    have h1 : (signs x).length = 8 := by simp [signs]
    have h2 : (signs x).idxOf (Str.ofString "") < (signs x).length := List.idxOf_lt_length_of_mem (by unfold signs; simp)
    lia
  have e : pathOf x = Str.join (Str.ofString "") ((signs x).take ((signs x).idxOf (Str.ofString ""))) := glued_eq_join _ _
  generalize hl : (signs x).take ((signs x).idxOf (Str.ofString "")) = l at e hmem
  have hll : l.length ≤ 7 := by rw [← hl, List.length_take]; lia
  rw [e]
  constructor
  · have h1 := PySem.StrLaws.join_length_le (Str.ofString "") l
    have h2 : (l.map (·.length)).sum ≤ l.length := by
      clear hl hll e h1
      induction l with
      | nil => exact Nat.le_refl _
      | cons a r ih =>
        have h3 := (hmem a (.head _)).1
        have h4 := ih fun s hs => hmem s (.tail _ hs)
        simp only [List.map_cons, List.sum_cons, List.length_cons]
        lia
    have h3 : (Str.ofString "").length = 0 := by decide
    rw [h3] at h1
    lia
  · unfold PyData.strOk
    rw [← Array.all_toList, List.all_eq_true]
    exact fun c hc => decide_eq_true (join_signs (P := fun c => c < 0x110000) (by decide) l (fun s hs => (hmem s hs).2) c hc)
theorem ok_of_sub {x y : Str} (h : ∀ c ∈ tl x, c ∈ tl y) (hy : PyData.strOk y = true) : PyData.strOk x = true := by
  unfold PyData.strOk at *
  rw [← Array.all_toList, List.all_eq_true] at *
  exact fun c hc => hy c (h c hc)

end

-- text: LawK
section
open PyProof.Rows.LCg (NsObj lst)
theorem str_ex2 {f g : Str} {t : Tok} (e : f = g) : ∃ t', Value.str f t = .str g t' := ⟨t, by rw [e]⟩
section
variable {w : World} {mean : ExcName → Option Value} {mg mb : Str → Option Value}
theorem key_con {x : Str × Tok} (hx : x.1.length < 1000) (nw : Led) : Con w mean mg mb 111 4 32 nw [strO.val x] (fun r nw' => (∃ t, r = .str (lawMod x.1) t) ∧ nw' = nw) := by
  intro dp un gd cn cs a ccd cl outer A₀ base h₀ L m s Q E B F X N T hk hd hu hret
  have hb : (baseOf x.1).length < 1000 := Nat.lt_of_le_of_lt (Txt.slice_le _ _ _) hx
  refine modname_con0 hx hb dp un gd cn cs a ccd cl outer A₀ base h₀ L m s Q E B F X N T hk hd hu fun r news' h' tk' F' N' hr => ?_
  obtain ⟨⟨f, t, hs, rfl⟩, e⟩ := hr
  exact hret _ _ _ _ F' N' ⟨str_ex2 (stem_mod hs), e⟩
theorem ConK.mono {f : Addr} {dn dn' un un' : Nat} {news : Led} {args : List Value} {kw : List (Str × Value)} {Ret Ret' : Value → Led → Prop} (C : ConK w mean mg mb f dn un news args kw Ret) (h1 : dn ≤ dn') (h2 : un ≤ un') (h : ∀ r nw, Ret r nw → Ret' r nw) : ConK w mean mg mb f dn' un' news args kw Ret' :=
  fun dp up gd cn cs a ccd cl outer A₀ base h₀ L m s Q E B F X N T hk hd hu hret => C dp up gd cn cs a ccd cl outer A₀ base h₀ L m s Q E B F X N T hk (Nat.lt_of_le_of_lt (Nat.add_le_add_left h1 _) hd) (Nat.lt_of_le_of_lt (Nat.add_le_add_left h2 _) hu) fun r news' h' tk' F' N' hr => hret r news' h' tk' F' N' (h _ _ hr)
theorem ConN.mono {f : Addr} {dn dn' un un' : Nat} {news : Led} {args : List Value} {kw : List (Str × Value)} {Ret Ret' : Value → Led → Prop} (C : ConN w mean mg mb f dn un news args kw Ret) (h1 : dn ≤ dn') (h2 : un ≤ un') (h : ∀ r nw, Ret r nw → Ret' r nw) : ConN w mean mg mb f dn' un' news args kw Ret' :=
  fun dp up gd cn cs a ccd cl A₀ base h₀ L m s Q E B F X N T hk hd hu hret => C dp up gd cn cs a ccd cl A₀ base h₀ L m s Q E B F X N T hk (Nat.lt_of_le_of_lt (Nat.add_le_add_left h1 _) hd) (Nat.lt_of_le_of_lt (Nat.add_le_add_left h2 _) hu) fun r news' h' tk' F' N' hr => hret r news' h' tk' F' N' (h _ _ hr)
theorem ConK.alone {f : Addr} {dn un : Nat} {news : Led} {args : List Value} {kw : List (Str × Value)} {Ret : Value → Led → Prop} (C : ConK w mean mg mb f dn un news args kw Ret) : ConN w mean mg mb f dn un news args kw Ret :=
  fun dp up gd cn cs a ccd cl A₀ base h₀ L m s Q E B F X N T hk hd hu hret => C dp up gd cn cs a ccd cl [] A₀ base h₀ L m s Q E B F X N T hk hd hu hret
/-- nsmallest gives the few least -/
theorem ns_con {l : Addr} {ps : List (Str × Tok)} {n wish : Nat} {t : Tok} (h1 : 1 ≤ wish) (h6 : wish ≤ 6) (hl : ps.length < 1000) (hw : wish < ps.length ∨ wish = 6 ∧ ps.length = 6) (hps : ∀ p ∈ ps, p.1.length < 1000) (nw : Led) :
    ConK w mean mg mb 187 9 70 ((l, listOf (ps.map strO.val).toArray n) :: nw) [.int (wish : Nat) t, .ref l] [(Str.ofString "key", .ref 111)] (fun r news' => ∃ (D' : Addr) (zs : List (Str × Tok)) (c : Nat), r = .ref D' ∧ news' = (D', listOf (zs.map strO.val).toArray c) :: (l, listOf (ps.map strO.val).toArray n) :: nw ∧ AllLt D' ((l, listOf (ps.map strO.val).toArray n) :: nw) ∧ zs.map (·.1) = (fewUpTo false ps (keysOf lawMod ps) wish).map (·.1)) := by
  have hkey : ∀ x ∈ ps, ∀ nw, Con w mean mg mb 111 4 32 nw [strO.val x] (fun r nw' => (∃ t, r = .str (lawMod x.1) t) ∧ nw' = nw) := fun x hx nw => key_con (hps x hx) nw
  by_cases e1 : wish = 1
  · subst e1
    cases hx : ps with
    | nil => rw [hx] at hw; simp at hw
    | cons x0 xs' =>
      rw [← hx]
      refine ConK.mono (ns1_con hx hl hkey) (by decide) (by decide) fun r nw' hr => ?_
      obtain ⟨D, k, t', rfl, rfl, hlt⟩ := hr
      refine ⟨D, [((bestBy sless lawMod x0 xs').1, t')], k, rfl, rfl, hlt, ?_⟩
      rw [← best_law (g := false) hx]
      rfl
  · rcases hw with hw | ⟨rfl, hw⟩
    · refine ConK.mono (ns2_con (by lia) h6 hl hw (by rw [ns_all]; exact few_nodup (by lia) (by lia)) hkey) (Nat.le_refl _) (Nat.le_refl _) fun r nw' hr => ?_
      obtain ⟨D, zs, c, res, rfl, rfl, hlt, hp, hs, e⟩ := hr
      refine ⟨D, zs, c, rfl, rfl, hlt, ?_⟩
      rw [e]
      rw [ns_all] at hp
      exact few_heap (g := false) (by lia) (by lia) hp hs
    · obtain ⟨p, r1, r2, r3, r4⟩ := six_law (kf := lawMod) hw
      refine ConK.mono (ns6_con hw r1 r2 r3 hkey) (Nat.le_refl _) (Nat.le_refl _) fun r nw' hr => ?_
      obtain ⟨D, zs, c, rfl, rfl, hlt, e⟩ := hr
      exact ⟨D, zs, c, rfl, rfl, hlt, by rw [e, r4]⟩
/-- nlargest gives the few greatest -/
theorem nl_con {l J : Addr} {ps : List (Str × Tok)} {n wish : Nat} {t : Tok} (h1 : 1 ≤ wish) (h6 : wish ≤ 6) (hl : ps.length < 1000) (hw : wish ≤ ps.length) (hps : ∀ p ∈ ps, p.1.length < 1000) (nw : Led) (offJ : ∀ p ∈ (l, listOf (ps.map strO.val).toArray n) :: nw, p.1 ≠ J) :
    ConN w mean mg mb 193 9 70 ((J, lstIt l 0) :: (l, listOf (ps.map strO.val).toArray n) :: nw) [.int (wish : Nat) t, .ref J] [(Str.ofString "key", .ref 111)] (fun r news' => ∃ (D' : Addr) (zs : List (Str × Tok)) (c : Nat), r = .ref D' ∧ news' = (D', listOf (zs.map strO.val).toArray c) :: (l, listOf (ps.map strO.val).toArray n) :: nw ∧ AllLt D' ((l, listOf (ps.map strO.val).toArray n) :: nw) ∧ zs.map (·.1) = (fewUpTo true ps (keysOf lawMod ps) wish).map (·.1)) := by
  have hkey : ∀ x ∈ ps, ∀ nw, Con w mean mg mb 111 4 32 nw [strO.val x] (fun r nw' => (∃ t, r = .str (lawMod x.1) t) ∧ nw' = nw) := fun x hx nw => key_con (hps x hx) nw
  by_cases e1 : wish = 1
  · subst e1
    cases hx : ps with
    | nil => rw [hx] at hw; simp at hw
    | cons x0 xs' =>
      rw [← hx]
      refine ConN.mono (ConK.alone (nl1_con hx hl offJ hkey)) (by decide) (by decide) fun r nw' hr => ?_
      obtain ⟨D, k, t', rfl, rfl, hlt⟩ := hr
      refine ⟨D, [((bestBy smore lawMod x0 xs').1, t')], k, rfl, rfl, hlt, ?_⟩
      rw [← best_law (g := true) hx]
      rfl
  · refine ConN.mono (nl2_con (by lia) h6 hl hw offJ (by rw [nl_all]; exact few_nodup (by lia) (by lia)) hkey) (Nat.le_refl _) (Nat.le_refl _) fun r nw' hr => ?_
    obtain ⟨D, zs, c, res, rfl, rfl, hlt, hp, hs, e⟩ := hr
    refine ⟨D, zs, c, rfl, rfl, hlt, ?_⟩
    rw [e]
    rw [nl_all] at hp
    exact few_heap (g := true) (by lia) (by lia) hp hs
end
/-- a list, a tuple is no cell -/
theorem ne_cell {h₀ h : Heap} {L : Addr} {led : Led} (N : News h₀ L h led) {a b : Addr} {o1 o2 : Obj} (h1 : (a, o1) ∈ led) (h2 : (b, o2) ∈ led) (hc : ∃ v, o2.data = .cell v) (hn : ∀ v, o1.data ≠ .cell v) : a ≠ b := by
  rintro rfl
  obtain ⟨v, hv⟩ := hc
  have e : o1 = o2 := Option.some.inj ((N _ h1).1.symm.trans (N _ h2).1)
  exact hn v (by rw [e]; exact hv)
theorem ints_vals : ∀ {vs : List Value} {ns : List Int}, IntsAre vs ns → ∃ es : List (Int × Tok), vs = es.map intV ∧ es.map (·.1) = ns
  | _, _, .nil => ⟨[], rfl, rfl⟩
  | _, _, .cons x t r => by
    obtain ⟨es, rfl, rfl⟩ := ints_vals r
    exact ⟨(x, t) :: es, rfl, rfl⟩
/-- the heap of all paths -/
theorem pushes_heap : ∀ (ys hs : List (Str × Tok)), HF strO.lt hs 0 → HF strO.lt (ys.foldl hpush hs) 0 ∧ (ys.foldl hpush hs).Perm (hs ++ ys)
  | [], hs, h => ⟨h, by rw [List.append_nil]; exact List.Perm.refl _⟩
  | y :: ys, hs, h => by
    have h1 := push_heap wk_str (x := y) h
    have ih := pushes_heap ys (hpush hs y) h1.1
    refine ⟨ih.1, ih.2.trans ((h1.2.append_right ys).trans ?_)⟩
    rw [List.append_assoc]
    exact List.Perm.refl _
theorem heap_all {ps : List (Str × Tok)} : HF strO.lt ((ps.drop (ps.length / 2)).foldl hpush (hfy strO.lt (ps.length / 2 / 2) (ps.take (ps.length / 2)))) 0 ∧ ((ps.drop (ps.length / 2)).foldl hpush (hfy strO.lt (ps.length / 2 / 2) (ps.take (ps.length / 2)))).Perm ps := by
  have hl : (ps.take (ps.length / 2)).length = ps.length / 2 := by rw [List.length_take]; lia
  have h := hfy_all wk_str (ps.take (ps.length / 2))
  rw [hl] at h
  have h2 := pushes_heap (ps.drop (ps.length / 2)) _ h.1
  refine ⟨h2.1, h2.2.trans ((h.2.append_right _).trans ?_)⟩
  rw [List.take_append_drop]

end

-- text: LawA
section
open PyProof.Rows.LCg (NsObj lst)
section
variable {w : World} {mean : ExcName → Option Value} {mg mb : Str → Option Value} {h₀ base : Heap} {L fa : Addr} {cd : Value} {m : Str → Option Value} {s : Shared} {Q : Flow → Shared → Prop} {E : Value → Shared → Prop}
/-- the law from its statement 0 to 6 -/
theorem law_a (B : Below callerA base [] h₀) (F : Fr h₀ L s.heap m) (T : Top q0 (looseW q0 loose0) mean mg mb h₀) {c1 c2 c3 : Obj} (N : News h₀ L s.heap [(L + 1, c1), (L + 1 + 1, c2), (L + 1 + 1 + 1, c3)]) (d1 : ∃ v, c1.data = .cell v)
    {ax : Addr} {es : List (Int × Tok)} (hs : m (Str.ofString "script") = some (.ref ax)) (hL : h₀.IsList ax (es.map intV).toArray) (hlen : es.length ≤ 63)
    (next : ∀ (h' : Heap) (tk' : Nat) (m' : Str → Option Value) (c1' : Obj) (tt : Tok) (D O M W P : Addr) (ps os ms ws pl : List (Str × Tok)), Fr h₀ L h' m' →
      News h₀ L h' [(M, lst (ms.map strO.val)), (W, lst (ws.map strO.val)), (P, lst (pl.map strO.val)), (O, lst (os.map strO.val)), (D, lst (ps.map strO.val)), (L + 1, c1'), (L + 1 + 1, c2), (L + 1 + 1 + 1, c3)] →
      c1'.data = .cell (some (.int (((es.take 6).map (·.1)).sum + 194) tt)) → ps.map (·.1) = ((es.take 6).map (·.1) ++ fives).map pathOf → os.map (·.1) = ps.map (fun p => lawMod p.1) → ms.map (·.1) = picked (((es.take 6).map (·.1)).sum + 194) 0 mods4 4 → ws.map (·.1) = picked (((es.take 6).map (·.1)).sum + 194) 4 writ4 4 → pl.map (·.1) = picked (((es.take 6).map (·.1)).sum + 194) 4 plain4 4 →
      m' (Str.ofString "paths") = some (.ref D) → m' (Str.ofString "owners") = some (.ref O) → m' (Str.ofString "modules") = some (.ref M) → m' (Str.ofString "written") = some (.ref W) → m' (Str.ofString "plain") = some (.ref P) →
      lawWp w L fa cd 6 Q E { s with heap := h', toks := tk' }) :
    (hd.heap_1 w.params).In h₀ → lawWp w L fa cd 0 Q E s := by
  intro X
  obtain ⟨v1, d1⟩ := d1
  refine law1 B F T N d1 hs hL hlen (fun h1 tk1 m1 c1' tt D ps F1 N1 dt mD hps lD => ?_) X
  have hpl : ps.length < 100 := by
    have := congrArg List.length hps
    simp only [List.length_map, List.length_append, List.length_take, fives, List.length_cons, List.length_nil] at this
    omega
  have hp1 : ∀ p ∈ ps, p.1.length < 1000 := fun p hp => by
    have h1 : p.1 ∈ ps.map (·.1) := List.mem_map.mpr ⟨p, hp, rfl⟩
    rw [hps] at h1
    obtain ⟨z, _, e⟩ := List.mem_map.mp h1
    have := (path_short z).1
    rw [← e]
    omega
  refine law2 (s := { s with heap := h1, toks := tk1 }) B F1 T N1 mD hpl hp1 (fun h2 tk2 m2 O os F2 N2 lO mD2 mO2 hos => ?_) X
  refine law3 (s := { s with heap := h2, toks := tk2 }) B F2 T N2 (.tail _ (.tail _ (.head _))) dt (fun h3 tk3 m3 M ms F3 N3 lM mM3 hm3 hms => ?_) X
  refine law4 (s := { s with heap := h3, toks := tk3 }) B F3 T N3 (.tail _ (.tail _ (.tail _ (.head _)))) dt (fun h4 tk4 m4 W ws F4 N4 lW mW4 hm4 hws => ?_) X
  refine law5 (s := { s with heap := h4, toks := tk4 }) B F4 T N4 (.tail _ (.tail _ (.tail _ (.tail _ (.head _))))) dt (fun h5 tk5 m5 P pl F5 N5 lP mP5 hm5 hpl5 => ?_) X
  exact next h5 tk5 m5 c1' tt D O M W P ps os ms ws pl F5 (news_perm N5 (List.forall_mem_cons.mpr ⟨.tail _ (.tail _ (.head _)), List.forall_mem_cons.mpr ⟨.tail _ (.head _), List.forall_mem_cons.mpr ⟨.head _, List.forall_mem_cons.mpr ⟨.tail _ (.tail _ (.tail _ (.head _))), List.forall_mem_cons.mpr ⟨.tail _ (.tail _ (.tail _ (.tail _ (.head _)))), List.forall_mem_cons.mpr ⟨.tail _ (.tail _ (.tail _ (.tail _ (.tail _ (.head _))))), List.forall_mem_cons.mpr ⟨.tail _ (.tail _ (.tail _ (.tail _ (.tail _ (.tail _ (.head _)))))), List.forall_mem_cons.mpr ⟨.tail _ (.tail _ (.tail _ (.tail _ (.tail _ (.tail _ (.tail _ (.head _))))))), List.forall_mem_nil _⟩⟩⟩⟩⟩⟩⟩⟩)) dt hps hos hms hws hpl5
    ((hm5 _ (by decide)).trans ((hm4 _ (by decide)).trans ((hm3 _ (by decide)).trans mD2))) ((hm5 _ (by decide)).trans ((hm4 _ (by decide)).trans ((hm3 _ (by decide)).trans mO2))) ((hm5 _ (by decide)).trans ((hm4 _ (by decide)).trans mM3)) ((hm5 _ (by decide)).trans mW4) mP5
end
theorem in4 {p a b c d : Addr} (h1 : p ≠ a) (h2 : p ≠ b) (h3 : p ≠ c) (h4 : p ≠ d) : p ∉ [a, b, c, d] := by simp [h1, h2, h3, h4]
theorem nd4_of {a b c d : Addr} (h1 : a ≠ b) (h2 : a ≠ c) (h3 : a ≠ d) (h4 : b ≠ c) (h5 : b ≠ d) (h6 : c ≠ d) : [a, b, c, d].Nodup := by simp [h1, h2, h3, h4, h5, h6]
theorem mods_len : ∀ i, i < 4 → (mods4.getD i default).length < 1000 := by decide +kernel
theorem plain_len : ∀ i, i < 4 → (plain4.getD i default).length < 1000 := by decide +kernel
theorem dirs_len : ∀ i, i < 4 → (plainOf (writ4.getD i default)).length < 1000 := by decide +kernel
theorem of_picked {P : Str → Prop} {total : Int} {off : Nat} {nm : List Str} {l : List (Str × Tok)} (e : l.map (·.1) = picked total off nm 4) (h : ∀ i, i < 4 → P (nm.getD i default)) : ∀ p ∈ l, P p.1 := fun p hp => by
  have h1 : p.1 ∈ l.map (·.1) := List.mem_map.mpr ⟨p, hp, rfl⟩
  rw [e] at h1
  obtain ⟨i, hi, e2⟩ := picked_mem h1
  rw [e2]
  exact h i hi
theorem picked_short {total : Int} {off : Nat} {nm : List Str} {l : List (Str × Tok)} (e : l.map (·.1) = picked total off nm 4) : l.length ≤ 4 := by
  have h1 := congrArg List.length e
  rw [List.length_map] at h1
  rw [h1]
  exact picked_len _ _ _ _
section
variable {w : World} {mean : ExcName → Option Value} {mg mb : Str → Option Value} {h₀ base : Heap} {L fa : Addr} {cd : Value} {m : Str → Option Value} {s : Shared} {Q : Flow → Shared → Prop} {E : Value → Shared → Prop}
/-- the heap of the paths ahead of the pops -/
noncomputable abbrev heapOf (ps : List (Str × Tok)) : List (Str × Tok) := (ps.drop (ps.length / 2)).foldl hpush (hfy strO.lt (ps.length / 2 / 2) (ps.take (ps.length / 2)))
noncomputable abbrev wishOf (total : Int) : Nat := (total.fmod 6).toNat + 1
/-- the law from its statement 6 to 14 -/
theorem law_b (B : Below callerA base [] h₀) (F : Fr h₀ L s.heap m) (T : Top q0 (looseW q0 loose0) mean mg mb h₀) {c1 c2 c3 : Obj} {total : Int} {tt : Tok} {D O M W P : Addr} {ps os ms ws pl : List (Str × Tok)}
    (N : News h₀ L s.heap [(M, lst (ms.map strO.val)), (W, lst (ws.map strO.val)), (P, lst (pl.map strO.val)), (O, lst (os.map strO.val)), (D, lst (ps.map strO.val)), (L + 1, c1), (L + 1 + 1, c2), (L + 1 + 1 + 1, c3)])
    (dt : c1.data = .cell (some (.int total tt))) (hc2 : ∃ v, c2.data = .cell v) (hms : ms.map (·.1) = picked total 0 mods4 4) (hws : ws.map (·.1) = picked total 4 writ4 4) (hps : ∀ p ∈ ps, p.1.length < 1000 ∧ (lawMod p.1).length < 1000) (hlen : ps.length < 60)
    (hw : wishOf total < ps.length ∨ wishOf total = 6 ∧ ps.length = 6) (mD : m (Str.ofString "paths") = some (.ref D)) (mO : m (Str.ofString "owners") = some (.ref O)) (mM : m (Str.ofString "modules") = some (.ref M)) (mW : m (Str.ofString "written") = some (.ref W)) (mP : m (Str.ofString "plain") = some (.ref P))
    (hE : PassesOwn (model PySem.Challenge.rw_nq0173_01.row.prog w) (callerA.deeper (lawE L fa cd)) (lawE L fa cd) E)
    (next : ∀ (h' : Heap) (tk' : Nat) (d' : Drawn) (m' : Str → Option Value) (Tl T' D1 D2 H : Addr) (oc : Obj) (R : Led) (rows : List PRow) (es zs1 zs2 : List (Str × Tok)) (nt nh k1 k2 : Nat) (tf tw : Tok), Fr h₀ L h' m' →
      News h₀ L h' ((Tl, listOf (toldOf (1 + (ps.drop (ps.length / 2)).length) rows ++ [Value.ref T']).toArray nt) :: (T', { cls := .type "tuple", data := .seq #[.ref H, .ref D1, .ref D2] }) :: (D2, listOf (zs2.map strO.val).toArray k2) :: (D1, listOf (zs1.map strO.val).toArray k1) :: (H, listOf #[] nh) :: (D, lst (ps.map strO.val)) :: (L + 1 + 1, oc) :: R) →
      (∃ v, oc.data = .cell v) → (∀ p ∈ [(M, lst (ms.map strO.val)), (P, lst (pl.map strO.val)), (O, lst (os.map strO.val)), (L + 1 + 1 + 1, c3)], p ∈ R) → (∀ r ∈ rows, r.ent ∈ R) → rows.length = ps.length → es.map (·.1) = ws.map (fun p => plainOf p.1) → rows.map PRow.plain = popRows (nameAns ms es) lawMod ps.length (heapOf ps) [(Str.ofString "<string>", true)] →
      zs1.map (·.1) = (fewUpTo false ps (keysOf lawMod ps) (wishOf total)).map (·.1) → zs2.map (·.1) = (fewUpTo true ps (keysOf lawMod ps) (wishOf total)).map (·.1) →
      m' (Str.ofString "told") = some (.ref Tl) → m' (Str.ofString "paths") = some (.ref D) → m' (Str.ofString "owners") = some (.ref O) → m' (Str.ofString "modules") = some (.ref M) → m' (Str.ofString "plain") = some (.ref P) → m' (Str.ofString "half") = some (.int ((ps.length / 2 : Nat) : Int) tf) → m' (Str.ofString "wish") = some (.int (wishOf total : Nat) tw) →
      lawWp w L fa cd 14 Q E { s with heap := h', toks := tk', drawn := d' }) :
    (hd.heap_1 w.params).In h₀ → lawWp w L fa cd 6 Q E s := by
  intro X
  have hml := picked_short hms
  have hwl := picked_short hws
  have hnd6 : (ms.map (·.1)).Nodup := by rw [hms]; exact picked_nodup total
  refine law6 B F T N mM mW (by omega) (by omega) hnd6 (of_picked hws dirs_ok) (fun h6 tk6 m6 x dx S Dd G oS oG es n t1 t2 t3 t4 F6 N6 hS hes hG hGs lG mR6 hm6 => ?_) X
  have hel : es.length ≤ 4 := by
    have := congrArg List.length hes
    rw [List.length_map, List.length_map] at this
    omega
  have hel1 : ∀ p ∈ es, p.1.length < 1000 := fun p hp => by
    have h1 : p.1 ∈ es.map (·.1) := List.mem_map.mpr ⟨p, hp, rfl⟩
    rw [hes] at h1
    obtain ⟨q, hq, e⟩ := List.mem_map.mp h1
    rw [← e]
    exact of_picked (P := fun x => (plainOf x).length < 1000) hws dirs_len q hq
  have hm2 : (L + 1 + 1, c2) ∈ (G, oG) :: (Dd, listOf (es.map strO.val).toArray n) :: (S, oS) :: (x, instObj 100 dx) :: (dx, igD w t1 t2 t3 S Dd G) :: (M, lst (ms.map strO.val)) :: (W, lst (ws.map strO.val)) :: [(P, lst (pl.map strO.val)), (O, lst (os.map strO.val)), (D, lst (ps.map strO.val)), (L + 1, c1), (L + 1 + 1, c2), (L + 1 + 1 + 1, c3)] := .tail _ (.tail _ (.tail _ (.tail _ (.tail _ (.tail _ (.tail _ (.tail _ (.tail _ (.tail _ (.tail _ (.head _)))))))))))
  have nDd := ne_cell N6 (.tail _ (.head _)) hm2 hc2 (fun v => nofun)
  have nS := ne_cell N6 (.tail _ (.tail _ (.head _))) hm2 hc2 (fun v e => by
    obtain ⟨es, ep, tb, rfl, _⟩ := hS
    cases e)
  have nx := ne_cell N6 (.tail _ (.tail _ (.tail _ (.head _)))) hm2 hc2 (fun v => nofun)
  have ndx := ne_cell N6 (.tail _ (.tail _ (.tail _ (.tail _ (.head _))))) hm2 hc2 (fun v => nofun)
  have nM := ne_cell N6 (.tail _ (.tail _ (.tail _ (.tail _ (.tail _ (.head _)))))) hm2 hc2 (fun v => nofun)
  have nW := ne_cell N6 (.tail _ (.tail _ (.tail _ (.tail _ (.tail _ (.tail _ (.head _))))))) hm2 hc2 (fun v => nofun)
  have nP := ne_cell N6 (.tail _ (.tail _ (.tail _ (.tail _ (.tail _ (.tail _ (.tail _ (.head _)))))))) hm2 hc2 (fun v => nofun)
  have nO := ne_cell N6 (.tail _ (.tail _ (.tail _ (.tail _ (.tail _ (.tail _ (.tail _ (.tail _ (.head _))))))))) hm2 hc2 (fun v => nofun)
  have nD := ne_cell N6 (.tail _ (.tail _ (.tail _ (.tail _ (.tail _ (.tail _ (.tail _ (.tail _ (.tail _ (.head _)))))))))) hm2 hc2 (fun v => nofun)
  refine law7 (s := { s with heap := h6, toks := tk6 }) B F6 T (news_perm N6 (List.forall_mem_cons.mpr ⟨.tail _ (.tail _ (.tail _ (.tail _ (.tail _ (.tail _ (.tail _ (.tail _ (.tail _ (.head _))))))))), List.forall_mem_cons.mpr ⟨.head _, List.forall_mem_cons.mpr ⟨.tail _ (.head _), List.forall_mem_cons.mpr ⟨.tail _ (.tail _ (.head _)), List.forall_mem_cons.mpr ⟨.tail _ (.tail _ (.tail _ (.head _))), List.forall_mem_cons.mpr ⟨.tail _ (.tail _ (.tail _ (.tail _ (.head _)))), List.forall_mem_cons.mpr ⟨.tail _ (.tail _ (.tail _ (.tail _ (.tail _ (.head _))))), List.forall_mem_cons.mpr ⟨.tail _ (.tail _ (.tail _ (.tail _ (.tail _ (.tail _ (.head _)))))), List.forall_mem_cons.mpr ⟨.tail _ (.tail _ (.tail _ (.tail _ (.tail _ (.tail _ (.tail _ (.head _))))))), List.forall_mem_cons.mpr ⟨.tail _ (.tail _ (.tail _ (.tail _ (.tail _ (.tail _ (.tail _ (.tail _ (.head _)))))))), List.forall_mem_cons.mpr ⟨.tail _ (.tail _ (.tail _ (.tail _ (.tail _ (.tail _ (.tail _ (.tail _ (.tail _ (.tail _ (.head _)))))))))), List.forall_mem_cons.mpr ⟨.tail _ (.tail _ (.tail _ (.tail _ (.tail _ (.tail _ (.tail _ (.tail _ (.tail _ (.tail _ (.tail _ (.head _))))))))))), List.forall_mem_cons.mpr ⟨.tail _ (.tail _ (.tail _ (.tail _ (.tail _ (.tail _ (.tail _ (.tail _ (.tail _ (.tail _ (.tail _ (.tail _ (.head _)))))))))))), List.forall_mem_nil _⟩⟩⟩⟩⟩⟩⟩⟩⟩⟩⟩⟩⟩)) ((hm6 _ (by decide)).trans mD) (by omega) (fun h7 tk7 m7 H Tl tf F7 N7 lH hHT lT mH7 mT7 mh7 hm7 => ?_) X
  have mD7 : m7 (Str.ofString "paths") = some (.ref D) := (hm7 _ (by decide) (by decide) (by decide)).trans ((hm6 _ (by decide)).trans mD)
  have htl : (ps.take (ps.length / 2)).length < 100 := by rw [List.length_take]; omega
  refine law10 (s := { s with heap := h7, toks := tk7 }) B F7 T N7 lH hHT lT mD7 mH7 mT7 mh7 (by omega) (by rw [hfy_length]; exact htl) hE (fun h10 tk10 m10 n1 n2 F10 N10 hm10 => ?_) X
  have hhp := heap_all (ps := ps)
  have hhl : (heapOf ps).length = ps.length := hhp.2.length_eq
  have e10 : ∀ z, z ≠ Str.ofString "path" → z ≠ Str.ofString "half" → z ≠ Str.ofString "heap" → z ≠ Str.ofString "told" → z ≠ Str.ofString "reader" → m10 z = m z := fun z z1 z2 z3 z4 z5 => (hm10 z z1).trans ((hm7 z z2 z3 z4).trans (hm6 z z5))
  refine law11 (s := { s with heap := h10, toks := tk10 }) (kf := lawMod) B F10 T (news_perm N10 (List.forall_mem_cons.mpr ⟨.head _, List.forall_mem_cons.mpr ⟨.tail _ (.head _), List.forall_mem_cons.mpr ⟨.tail _ (.tail _ (.tail _ (.head _))), List.forall_mem_cons.mpr ⟨.tail _ (.tail _ (.tail _ (.tail _ (.head _)))), List.forall_mem_cons.mpr ⟨.tail _ (.tail _ (.tail _ (.tail _ (.tail _ (.head _))))), List.forall_mem_cons.mpr ⟨.tail _ (.tail _ (.tail _ (.tail _ (.tail _ (.tail _ (.head _)))))), List.forall_mem_cons.mpr ⟨.tail _ (.tail _ (.tail _ (.tail _ (.tail _ (.tail _ (.tail _ (.head _))))))), List.forall_mem_cons.mpr ⟨.tail _ (.tail _ (.tail _ (.tail _ (.tail _ (.tail _ (.tail _ (.tail _ (.tail _ (.tail _ (.tail _ (.tail _ (.tail _ (.head _))))))))))))), List.forall_mem_cons.mpr ⟨.tail _ (.tail _ (.head _)), List.forall_mem_cons.mpr ⟨.tail _ (.tail _ (.tail _ (.tail _ (.tail _ (.tail _ (.tail _ (.tail _ (.head _)))))))), List.forall_mem_cons.mpr ⟨.tail _ (.tail _ (.tail _ (.tail _ (.tail _ (.tail _ (.tail _ (.tail _ (.tail _ (.head _))))))))), List.forall_mem_cons.mpr ⟨.tail _ (.tail _ (.tail _ (.tail _ (.tail _ (.tail _ (.tail _ (.tail _ (.tail _ (.tail _ (.head _)))))))))), List.forall_mem_cons.mpr ⟨.tail _ (.tail _ (.tail _ (.tail _ (.tail _ (.tail _ (.tail _ (.tail _ (.tail _ (.tail _ (.tail _ (.head _))))))))))), List.forall_mem_cons.mpr ⟨.tail _ (.tail _ (.tail _ (.tail _ (.tail _ (.tail _ (.tail _ (.tail _ (.tail _ (.tail _ (.tail _ (.tail _ (.head _)))))))))))), List.forall_mem_cons.mpr ⟨.tail _ (.tail _ (.tail _ (.tail _ (.tail _ (.tail _ (.tail _ (.tail _ (.tail _ (.tail _ (.tail _ (.tail _ (.tail _ (.tail _ (.head _)))))))))))))), List.forall_mem_nil _⟩⟩⟩⟩⟩⟩⟩⟩⟩⟩⟩⟩⟩⟩⟩)) hc2
    (List.forall_mem_cons.mpr ⟨in4 (Nat.ne_of_lt lT.2.2.1) (Nat.ne_of_lt lH.2.2.1) (Nat.ne_of_lt lG.1) nDd, List.forall_mem_cons.mpr ⟨in4 (Nat.ne_of_lt lT.2.2.2.1) (Nat.ne_of_lt lH.2.2.2.1) (Nat.ne_of_lt lG.2.1) nS, List.forall_mem_cons.mpr ⟨in4 (Nat.ne_of_lt lT.2.2.2.2.1) (Nat.ne_of_lt lH.2.2.2.2.1) (Nat.ne_of_lt lG.2.2.1) nx, List.forall_mem_cons.mpr ⟨in4 (Nat.ne_of_lt lT.2.2.2.2.2.1) (Nat.ne_of_lt lH.2.2.2.2.2.1) (Nat.ne_of_lt lG.2.2.2.1) ndx, List.forall_mem_cons.mpr ⟨in4 (Nat.ne_of_lt lT.1) (Nat.ne_of_lt lH.1) (Nat.ne_of_lt lG.2.2.2.2.2.2.2.2.1) nD, List.forall_mem_nil _⟩⟩⟩⟩⟩)
    (List.forall_mem_cons.mpr ⟨in4 (Nat.ne_of_lt lT.2.2.2.2.2.2.1) (Nat.ne_of_lt lH.2.2.2.2.2.2.1) (Nat.ne_of_lt lG.2.2.2.2.1) nM, List.forall_mem_cons.mpr ⟨in4 (Nat.ne_of_lt lT.2.2.2.2.2.2.2.1) (Nat.ne_of_lt lH.2.2.2.2.2.2.2.1) (Nat.ne_of_lt lG.2.2.2.2.2.1) nW, List.forall_mem_cons.mpr ⟨in4 (Nat.ne_of_lt lT.2.2.2.2.2.2.2.2.1) (Nat.ne_of_lt lH.2.2.2.2.2.2.2.2.1) (Nat.ne_of_lt lG.2.2.2.2.2.2.1) nP, List.forall_mem_cons.mpr ⟨in4 (Nat.ne_of_lt lT.2.2.2.2.2.2.2.2.2.1) (Nat.ne_of_lt lH.2.2.2.2.2.2.2.2.2.1) (Nat.ne_of_lt lG.2.2.2.2.2.2.2.1) nO,
      List.forall_mem_cons.mpr ⟨in4 (Nat.ne_of_lt lT.2.2.2.2.2.2.2.2.2.2.1) (Nat.ne_of_lt lH.2.2.2.2.2.2.2.2.2.2.1) (Nat.ne_of_lt lG.2.2.2.2.2.2.2.2.2.1) (Nat.ne_of_lt (Nat.lt_succ_self _)), List.forall_mem_cons.mpr ⟨in4 (Nat.ne_of_lt lT.2.2.2.2.2.2.2.2.2.2.2.2.1) (Nat.ne_of_lt lH.2.2.2.2.2.2.2.2.2.2.2.2.1) (Nat.ne_of_lt lG.2.2.2.2.2.2.2.2.2.2.2.1) (Nat.succ_ne_self _), List.forall_mem_nil _⟩⟩⟩⟩⟩⟩)
    (nd4_of (Nat.ne_of_gt hHT) (Nat.ne_of_gt lT.2.1) (Nat.ne_of_gt lT.2.2.2.2.2.2.2.2.2.2.2.1) (Nat.ne_of_gt lH.2.1) (Nat.ne_of_gt lH.2.2.2.2.2.2.2.2.2.2.2.1) (Nat.ne_of_gt lG.2.2.2.2.2.2.2.2.2.2.1))
    hS hG hGs (by omega) (by omega) (of_picked (P := fun x => x.length < 1000) hms mods_len) hel1 hhl (by omega) (fun p hp => hps p (hhp.2.mem_iff.mp hp)) (by rw [List.length_drop]; omega) (fun x hx nw => key_con (hps x (hhp.2.mem_iff.mp hx)).1 nw)
    ((hm10 _ (by decide)).trans mD7) ((hm10 _ (by decide)).trans mH7) ((hm10 _ (by decide)).trans mT7) ((hm10 _ (by decide)).trans ((hm7 _ (by decide) (by decide) (by decide)).trans mR6)) hE (fun h11 tk11 d11 m11 c F11 I11 N11 hm11 => ?_) X
  unfold popLed at N11
  refine law12 (s := { s with heap := h11, toks := tk11, drawn := d11 }) B F11 T N11 (.tail _ (.tail _ (.tail _ (.tail _ (.tail _ (.tail _ (.tail _ (.tail _ (I11.sin _ (.tail _ (.tail _ (.tail _ (.tail _ (.tail _ (.head _))))))))))))))) dt (fun h12 tk12 m12 tw F12 N12 mW12 hm12 => ?_) X
  have e12 : ∀ z, z ≠ Str.ofString "wish" → z ≠ Str.ofString "path" → z ≠ Str.ofString "place" → z ≠ Str.ofString "answer" → m12 z = m10 z := fun z z1 z2 z3 z4 => (hm12 z z1).trans (hm11 z z2 z3 z4)
  have hys : c.ys = [] := List.length_eq_zero_iff.mp (by rw [I11.len, hhl]; omega)
  have hw6 : wishOf total ≤ 6 := by
    have := Int.fmod_lt_of_pos total (show (0 : Int) < 6 by decide)
    show (total.fmod 6).toNat + 1 ≤ 6
    omega
  have hwl : wishOf total ≤ ps.length := by
    rcases hw with h | h
    · exact Nat.le_of_lt h
    · rw [h.1, h.2]; exact Nat.le_refl _
  refine law13 (s := { s with heap := h12, toks := tk12, drawn := d11 }) (SM := (fewUpTo false ps (keysOf lawMod ps) (wishOf total)).map (·.1)) (LG := (fewUpTo true ps (keysOf lawMod ps) (wishOf total)).map (·.1)) B F12 T
    (news := (G, c.oG) :: (Dd, listOf (es.map strO.val).toArray n) :: (S, oS) :: (x, instObj 100 dx) :: (dx, igD w t1 t2 t3 S Dd G) :: (L + 1 + 1, c.oc) :: c.R)
    (news_perm N12 (List.forall_mem_cons.mpr ⟨.head _, List.forall_mem_cons.mpr ⟨.tail _ (.head _), List.forall_mem_cons.mpr ⟨.tail _ (.tail _ (.tail _ (.tail _ (.tail _ (.tail _ (.tail _ (.tail _ (I11.sin _ (.head _))))))))), fun p hp => .tail _ (.tail _ hp)⟩⟩⟩))
    (List.forall_mem_cons.mpr ⟨Nat.ne_of_lt hHT, List.forall_mem_cons.mpr ⟨Nat.ne_of_lt lT.1, List.forall_mem_cons.mpr ⟨Nat.ne_of_lt lT.2.1, List.forall_mem_cons.mpr ⟨Nat.ne_of_lt lT.2.2.1, List.forall_mem_cons.mpr ⟨Nat.ne_of_lt lT.2.2.2.1, List.forall_mem_cons.mpr ⟨Nat.ne_of_lt lT.2.2.2.2.1, List.forall_mem_cons.mpr ⟨Nat.ne_of_lt lT.2.2.2.2.2.1, List.forall_mem_cons.mpr ⟨Nat.ne_of_lt lT.2.2.2.2.2.2.2.2.2.2.2.1, fun p hp => (notin4 (I11.off p hp)).1⟩⟩⟩⟩⟩⟩⟩⟩)
    ((e12 _ (by decide) (by decide) (by decide) (by decide)).trans ((hm10 _ (by decide)).trans mD7)) ((e12 _ (by decide) (by decide) (by decide) (by decide)).trans ((hm10 _ (by decide)).trans mH7)) ((e12 _ (by decide) (by decide) (by decide) (by decide)).trans ((hm10 _ (by decide)).trans mT7)) mW12
    (by simp only [toldOf, List.length_append, List.length_replicate, List.length_map, I11.rlen, List.length_drop]; omega)
    (fun nw => ns_con (Nat.succ_le_succ (Nat.zero_le _)) hw6 (by omega) hw (fun p hp => (hps p hp).1) nw) (fun J nw hJ => nl_con (Nat.succ_le_succ (Nat.zero_le _)) hw6 (by omega) hwl (fun p hp => (hps p hp).1) nw hJ) (fun h13 tk13 T' D1 D2 zs1 zs2 k1 k2 F13 N13 e1 e2 => ?_) X
  rw [hys] at N13
  exact next h13 tk13 d11 m12 Tl T' D1 D2 H c.oc c.R c.rows es zs1 zs2 _ _ k1 k2 tf tw F13
    (news_perm N13 (List.forall_mem_cons.mpr ⟨.head _, List.forall_mem_cons.mpr ⟨.tail _ (.head _), List.forall_mem_cons.mpr ⟨.tail _ (.tail _ (.head _)), List.forall_mem_cons.mpr ⟨.tail _ (.tail _ (.tail _ (.head _))), List.forall_mem_cons.mpr ⟨.tail _ (.tail _ (.tail _ (.tail _ (.head _)))), List.forall_mem_cons.mpr ⟨.tail _ (.tail _ (.tail _ (.tail _ (.tail _ (.head _))))), List.forall_mem_cons.mpr ⟨.tail _ (.tail _ (.tail _ (.tail _ (.tail _ (.tail _ (.tail _ (.tail _ (.tail _ (.tail _ (.tail _ (.head _))))))))))), fun p hp => .tail _ (.tail _ (.tail _ (.tail _ (.tail _ (.tail _ (.tail _ (.tail _ (.tail _ (.tail _ (.tail _ (.tail _ hp)))))))))))⟩⟩⟩⟩⟩⟩⟩))
    I11.oc (List.forall_mem_cons.mpr ⟨I11.sin _ (.tail _ (.head _)), List.forall_mem_cons.mpr ⟨I11.sin _ (.tail _ (.tail _ (.tail _ (.head _)))), List.forall_mem_cons.mpr ⟨I11.sin _ (.tail _ (.tail _ (.tail _ (.tail _ (.head _))))), List.forall_mem_cons.mpr ⟨I11.sin _ (.tail _ (.tail _ (.tail _ (.tail _ (.tail _ (.tail _ (.head _))))))), List.forall_mem_nil _⟩⟩⟩⟩) I11.rin I11.rlen hes I11.rows e1 e2
    ((e12 _ (by decide) (by decide) (by decide) (by decide)).trans ((hm10 _ (by decide)).trans mT7)) ((e12 _ (by decide) (by decide) (by decide) (by decide)).trans ((hm10 _ (by decide)).trans mD7)) ((e12 _ (by decide) (by decide) (by decide) (by decide)).trans ((e10 _ (by decide) (by decide) (by decide) (by decide) (by decide)).trans mO)) ((e12 _ (by decide) (by decide) (by decide) (by decide)).trans ((e10 _ (by decide) (by decide) (by decide) (by decide) (by decide)).trans mM)) ((e12 _ (by decide) (by decide) (by decide) (by decide)).trans ((e10 _ (by decide) (by decide) (by decide) (by decide) (by decide)).trans mP))
    ((e12 _ (by decide) (by decide) (by decide) (by decide)).trans ((hm10 _ (by decide)).trans mh7)) mW12
end

end

-- text: LawC
section
open PyProof.Rows.LCg (NsObj lst)
theorem few_sub {g : Bool} {ps : List (Str × Tok)} {os : List Str} {k : Nat} : ∀ p ∈ fewUpTo g ps os k, p ∈ ps := fun p hp => by
  unfold fewUpTo fewAt at hp
  obtain ⟨i, _, h1⟩ := List.mem_flatMap.mp hp
  obtain ⟨j, hj, h2⟩ := List.mem_filterMap.mp h1
  split at h2
  · rw [← Option.some.inj h2]
    exact getD_mem (List.mem_range.mp hj)
  · cases h2
section
variable {w : World} {mean : ExcName → Option Value} {mg mb : Str → Option Value} {h₀ base : Heap} {L fa : Addr} {cd : Value} {m : Str → Option Value} {s : Shared} {Q : Flow → Shared → Prop} {E : Value → Shared → Prop}
/-- the law from its statement 14 to its end -/
theorem law_c (B : Below callerA base [] h₀) (F : Fr h₀ L s.heap m) (T : Top q0 (looseW q0 loose0) mean mg mb h₀) {Tl T' D1 D2 H D O M P : Addr} {oc c3 : Obj} {R : Led} {rows : List PRow} {ps os ms pl zs1 zs2 : List (Str × Tok)} {nt nh k1 k2 wish : Nat} {tf tw : Tok}
    (N : News h₀ L s.heap ((Tl, listOf (toldOf (1 + (ps.drop (ps.length / 2)).length) rows ++ [Value.ref T']).toArray nt) :: (T', { cls := .type "tuple", data := .seq #[.ref H, .ref D1, .ref D2] }) :: (D2, listOf (zs2.map strO.val).toArray k2) :: (D1, listOf (zs1.map strO.val).toArray k1) :: (H, listOf #[] nh) :: (D, lst (ps.map strO.val)) :: (L + 1 + 1, oc) :: R))
    (hoc : ∃ v, oc.data = .cell v) (hc3 : ∃ v, c3.data = .cell v) (hR : ∀ p ∈ [(M, lst (ms.map strO.val)), (P, lst (pl.map strO.val)), (O, lst (os.map strO.val)), (L + 1 + 1 + 1, c3)], p ∈ R) (hrin : ∀ r ∈ rows, r.ent ∈ R)
    (hos : os.map (·.1) = ps.map (fun p => lawMod p.1)) (hlen : ps.length < 60) (hps : ∀ p ∈ ps, p.1.length < 1000 ∧ (lawMod p.1).length < 1000) (hok : ∀ p ∈ ps, PyData.strOk p.1 = true ∧ PyData.strOk (lawMod p.1) = true) (hml : ms.length < 10) (hpl : pl.length < 10) (hm1 : ∀ p ∈ ms, p.1.length < 1000) (hp1 : ∀ p ∈ pl, p.1.length < 1000) (hw : wish < 10)
    (hrows : ∀ zt : List Str, zt.Perm (ps.map (·.1)) → zt.Pairwise (fun a b => sless b a = false) → rows.map PRow.plain = dueRows ms pl zt zt)
    (e1 : zs1.map (·.1) = (fewUpTo false ps (keysOf lawMod ps) wish).map (·.1)) (e2 : zs2.map (·.1) = (fewUpTo true ps (keysOf lawMod ps) wish).map (·.1))
    (mT : m (Str.ofString "told") = some (.ref Tl)) (mD : m (Str.ofString "paths") = some (.ref D)) (mO : m (Str.ofString "owners") = some (.ref O)) (mM : m (Str.ofString "modules") = some (.ref M)) (mP : m (Str.ofString "plain") = some (.ref P)) (mh : m (Str.ofString "half") = some (.int ((ps.length / 2 : Nat) : Int) tf)) (mW : m (Str.ofString "wish") = some (.int (wish : Nat) tw))
    (hE : PassesOwn (model PySem.Challenge.rw_nq0173_01.row.prog w) (callerA.deeper (lawE L fa cd)) (lawE L fa cd) E)
    (next : ∀ (h' : Heap) (tk' : Nat) (m' : Str → Option Value), Fr h₀ L h' m' → Q (.ret (.bool true)) { s with heap := h', toks := tk' }) :
    (hd.heap_1 w.params).In h₀ → lawWp w L fa cd 14 Q E s := by
  intro X
  refine law14 B F T (news_front [_, _, _, _, _] N) mD mh (by omega) (fun h14 tk14 m14 U F14 N14 lU mU hm14 => ?_) X
  have m2 : (L + 1 + 1, oc) ∈ (U, lst (List.replicate (1 + (ps.drop (ps.length / 2)).length) Value.none)) :: (D, lst (ps.map strO.val)) :: (Tl, listOf (toldOf (1 + (ps.drop (ps.length / 2)).length) rows ++ [Value.ref T']).toArray nt) :: (T', { cls := .type "tuple", data := .seq #[.ref H, .ref D1, .ref D2] }) :: (D2, listOf (zs2.map strO.val).toArray k2) :: (D1, listOf (zs1.map strO.val).toArray k1) :: (H, listOf #[] nh) :: (L + 1 + 1, oc) :: R :=
    .tail _ (.tail _ (.tail _ (.tail _ (.tail _ (.tail _ (.tail _ (.head _)))))))
  have inR : ∀ p ∈ R, p ∈ (U, lst (List.replicate (1 + (ps.drop (ps.length / 2)).length) Value.none)) :: (D, lst (ps.map strO.val)) :: (Tl, listOf (toldOf (1 + (ps.drop (ps.length / 2)).length) rows ++ [Value.ref T']).toArray nt) :: (T', { cls := .type "tuple", data := .seq #[.ref H, .ref D1, .ref D2] }) :: (D2, listOf (zs2.map strO.val).toArray k2) :: (D1, listOf (zs1.map strO.val).toArray k1) :: (H, listOf #[] nh) :: (L + 1 + 1, oc) :: R :=
    fun p hp => .tail _ (.tail _ (.tail _ (.tail _ (.tail _ (.tail _ (.tail _ (.tail _ hp)))))))
  have m3 := inR _ (hR _ (.tail _ (.tail _ (.tail _ (.head _)))))
  have off : ∀ p ∈ (D, lst (ps.map strO.val)) :: (Tl, listOf (toldOf (1 + (ps.drop (ps.length / 2)).length) rows ++ [Value.ref T']).toArray nt) :: (T', { cls := .type "tuple", data := .seq #[.ref H, .ref D1, .ref D2] }) :: (D2, listOf (zs2.map strO.val).toArray k2) :: (D1, listOf (zs1.map strO.val).toArray k1) :: (H, listOf #[] nh) :: (L + 1 + 1, oc) :: R, (∀ v, p.2.data ≠ .cell v) → p.1 ∉ [U, L + 1 + 1, L + 1 + 1 + 1] :=
    fun p hp hn => in3 (allLt_out lU p hp) (ne_cell N14 (.tail _ hp) m2 hoc hn) (ne_cell N14 (.tail _ hp) m3 hc3 hn)
  have offR : ∀ p ∈ R, (∀ v, p.2.data ≠ .cell v) → p.1 ∉ [U, L + 1 + 1, L + 1 + 1 + 1] := fun p hp hn => off p (.tail _ (.tail _ (.tail _ (.tail _ (.tail _ (.tail _ (.tail _ hp))))))) hn
  have oD := off _ (.head _) (fun v => nofun)
  have oO := offR _ (hR _ (.tail _ (.tail _ (.head _)))) (fun v => nofun)
  have hent : ∀ p ∈ rows.map PRow.ent, ∃ r ∈ rows, r.ent = p := fun p hp => List.mem_map.mp hp
  refine law15 (s := { s with heap := h14, toks := tk14 }) (st := (Tl, listOf (toldOf (1 + (ps.drop (ps.length / 2)).length) rows ++ [Value.ref T']).toArray nt) :: (T', { cls := .type "tuple", data := .seq #[.ref H, .ref D1, .ref D2] }) :: (D2, listOf (zs2.map strO.val).toArray k2) :: (D1, listOf (zs1.map strO.val).toArray k1) :: (H, listOf #[] nh) :: rows.map PRow.ent) B F14 T
    (news_perm N14 (List.forall_mem_cons.mpr ⟨.head _, List.forall_mem_cons.mpr ⟨m2, List.forall_mem_cons.mpr ⟨m3, List.forall_mem_cons.mpr ⟨.tail _ (.head _), List.forall_mem_cons.mpr ⟨inR _ (hR _ (.tail _ (.tail _ (.head _)))), List.forall_mem_cons.mpr ⟨inR _ (hR _ (.head _)), List.forall_mem_cons.mpr ⟨inR _ (hR _ (.tail _ (.head _))),
      List.forall_mem_cons.mpr ⟨.tail _ (.tail _ (.head _)), List.forall_mem_cons.mpr ⟨.tail _ (.tail _ (.tail _ (.head _))), List.forall_mem_cons.mpr ⟨.tail _ (.tail _ (.tail _ (.tail _ (.head _)))), List.forall_mem_cons.mpr ⟨.tail _ (.tail _ (.tail _ (.tail _ (.tail _ (.head _))))), List.forall_mem_cons.mpr ⟨.tail _ (.tail _ (.tail _ (.tail _ (.tail _ (.tail _ (.head _)))))), fun p hp => by
        obtain ⟨r, hr, rfl⟩ := hent p hp
        exact inR _ (hrin r hr)⟩⟩⟩⟩⟩⟩⟩⟩⟩⟩⟩⟩))
    hoc hc3 (List.forall_mem_cons.mpr ⟨oD, List.forall_mem_cons.mpr ⟨oO, List.forall_mem_cons.mpr ⟨offR _ (hR _ (.head _)) (fun v => nofun), List.forall_mem_cons.mpr ⟨offR _ (hR _ (.tail _ (.head _))) (fun v => nofun), List.forall_mem_nil _⟩⟩⟩⟩)
    (List.forall_mem_cons.mpr ⟨off _ (.tail _ (.head _)) (fun v => nofun), List.forall_mem_cons.mpr ⟨off _ (.tail _ (.tail _ (.head _))) (fun v => nofun), List.forall_mem_cons.mpr ⟨off _ (.tail _ (.tail _ (.tail _ (.head _)))) (fun v => nofun), List.forall_mem_cons.mpr ⟨off _ (.tail _ (.tail _ (.tail _ (.tail _ (.head _))))) (fun v => nofun), List.forall_mem_cons.mpr ⟨off _ (.tail _ (.tail _ (.tail _ (.tail _ (.tail _ (.head _)))))) (fun v => nofun), fun p hp => by
      obtain ⟨r, hr, rfl⟩ := hent p hp
      exact offR _ (hrin r hr) (fun v => nofun)⟩⟩⟩⟩⟩)
    (ne_cell N14 (.head _) m2 hoc (fun v => nofun)) (ne_cell N14 (.head _) m3 hc3 (fun v => nofun)) hos hlen hps hml hpl hm1 hp1 (by rw [List.length_drop]; omega)
    ((hm14 _ (by decide)).trans mD) ((hm14 _ (by decide)).trans mO) ((hm14 _ (by decide)).trans mM) ((hm14 _ (by decide)).trans mP) mU hE (fun h15 tk15 m15 c zt F15 N15 hperm hsort I15 hm15 => ?_) X
  have e15 : ∀ z, z ≠ Str.ofString "path" → z ≠ Str.ofString "above" → z ≠ Str.ofString "below" → z ≠ Str.ofString "due" → m15 z = m z := fun z z1 z2 z3 z4 => (hm15 z z1 z2 z3).trans (hm14 z z4)
  have hcl : c.rows.length = ps.length := by
    have h1 := congrArg List.length I15.rows
    have h2 := hperm.length_eq
    simp only [dueRows, List.length_map] at h1 h2
    omega
  have hol : ps.length = os.length := by
    have := congrArg List.length hos
    rw [List.length_map, List.length_map] at this
    exact this.symm
  refine law16 (s := { s with heap := h15, toks := tk15 }) (rest := c.R) B F15 T (news_perm N15 (List.forall_mem_cons.mpr ⟨.tail _ (.tail _ (.tail _ (.head _))), List.forall_mem_cons.mpr ⟨.tail _ (.tail _ (.tail _ (.tail _ (.head _)))), List.forall_mem_cons.mpr ⟨.head _, fun p hp => .tail _ (.tail _ (.tail _ (.tail _ (.tail _ (.tail _ (.tail _ hp))))))⟩⟩⟩))
    (notin3 oD).1 (notin3 oO).1 (fun p hp => (notin3 (I15.off p hp)).1) hol (by omega) hw (by simp only [toldOf, List.length_append, List.length_replicate, List.length_map, List.length_drop]; omega)
    ((e15 _ (by decide) (by decide) (by decide) (by decide)).trans mD) ((e15 _ (by decide) (by decide) (by decide) (by decide)).trans mO) ((hm15 _ (by decide) (by decide) (by decide)).trans mU) ((e15 _ (by decide) (by decide) (by decide) (by decide)).trans mW) (fun h16 tk16 T2 H1 E1 E2 j1 j2 F16 N16 => ?_) X
  have ek : keysOf lawMod ps = os.map (·.1) := hos.symm
  rw [ek] at e1 e2
  have inS : ∀ p ∈ c.R, p ∈ (U, listOf (toldOf (1 + (ps.drop (ps.length / 2)).length) c.rows ++ [Value.ref T2]).toArray (c.nu + 1)) :: (T2, ({ cls := .type "tuple", data := .seq #[.ref H1, .ref E1, .ref E2] } : Obj)) :: (E2, listOf ((fewUpTo true ps (os.map (·.1)) wish).map strO.val).toArray j2) :: (E1, listOf ((fewUpTo false ps (os.map (·.1)) wish).map strO.val).toArray j1) :: (H1, listOf #[] 0) :: (D, lst (ps.map strO.val)) :: (O, lst (os.map strO.val)) :: c.R :=
    fun p hp => .tail _ (.tail _ (.tail _ (.tail _ (.tail _ (.tail _ (.tail _ hp))))))
  have r1 := all_rd N16 (inS _ (I15.sin _ (.head _))) (fun r hr => inS _ (I15.sin _ (.tail _ (.tail _ (.tail _ (.tail _ (.tail _ (List.mem_map.mpr ⟨r, hr, rfl⟩)))))))) (inS _ (I15.sin _ (.tail _ (.head _)))) (inS _ (I15.sin _ (.tail _ (.tail _ (.tail _ (.tail _ (.head _))))))) (inS _ (I15.sin _ (.tail _ (.tail _ (.tail _ (.head _)))))) (inS _ (I15.sin _ (.tail _ (.tail _ (.head _))))) e1 e2
  have r2 := all_rd N16 (.head _) (fun r hr => inS _ (I15.rin r hr)) (.tail _ (.head _)) (.tail _ (.tail _ (.tail _ (.tail _ (.head _))))) (.tail _ (.tail _ (.tail _ (.head _)))) (.tail _ (.tail _ (.head _))) rfl rfl
  rw [hrows zt hperm hsort] at r1
  rw [I15.rows] at r2
  refine law17 (s := { s with heap := h16, toks := tk16 }) B F16 T r1 r2 (allD_ok (fun r hr => ?_) (fun x hx => ?_) (fun x hx => ?_)) (by decide) ((e15 _ (by decide) (by decide) (by decide) (by decide)).trans mT) ((hm15 _ (by decide) (by decide) (by decide)).trans mU) (next _ _ _ F16) X
  · obtain ⟨z, hz, rfl⟩ := List.mem_map.mp hr
    obtain ⟨p, hp, rfl⟩ := List.mem_map.mp (hperm.mem_iff.mp hz)
    exact hok p hp
  · obtain ⟨p, hp, rfl⟩ := List.mem_map.mp hx
    exact (hok p (few_sub p hp)).1
  · obtain ⟨p, hp, rfl⟩ := List.mem_map.mp hx
    exact (hok p (few_sub p hp)).1
/-- the law answers True -/
theorem law_all (B : Below callerA base [] h₀) (F : Fr h₀ L s.heap m) (T : Top q0 (looseW q0 loose0) mean mg mb h₀) {c1 c2 c3 : Obj} (N : News h₀ L s.heap [(L + 1, c1), (L + 1 + 1, c2), (L + 1 + 1 + 1, c3)]) (d1 : ∃ v, c1.data = .cell v) (d2 : ∃ v, c2.data = .cell v) (d3 : ∃ v, c3.data = .cell v)
    {ax : Addr} {es : List (Int × Tok)} (hs : m (Str.ofString "script") = some (.ref ax)) (hL : h₀.IsList ax (es.map intV).toArray) (hlen : es.length ≤ 63)
    (hE : PassesOwn (model PySem.Challenge.rw_nq0173_01.row.prog w) (callerA.deeper (lawE L fa cd)) (lawE L fa cd) E)
    (next : ∀ (h' : Heap) (tk' : Nat) (d' : Drawn) (m' : Str → Option Value), Fr h₀ L h' m' → Q (.ret (.bool true)) { s with heap := h', toks := tk', drawn := d' }) :
    (hd.heap_1 w.params).In h₀ → lawWp w L fa cd 0 Q E s := by
  intro X
  refine law_a B F T N d1 hs hL hlen (fun h6 tk6 m6 c1' tt D O M W P ps os ms ws pl F6 N6 dt hps hos hms hws hpl mD mO mM mW mP => ?_) X
  have hpn : ps.length = min 6 es.length + 5 := by
    have := congrArg List.length hps
    simpa [fives] using this
  have hpath : ∀ p ∈ ps, p.1.length ≤ 7 ∧ PyData.strOk p.1 = true := fun p hp => by
    have h1 : p.1 ∈ ps.map (·.1) := List.mem_map.mpr ⟨p, hp, rfl⟩
    rw [hps] at h1
    obtain ⟨z, _, e⟩ := List.mem_map.mp h1
    rw [← e]
    exact path_short z
  have hps1 : ∀ p ∈ ps, p.1.length < 1000 ∧ (lawMod p.1).length < 1000 := fun p hp => by
    have h1 := (hpath p hp).1
    have h2 := (mod_sub p.1).1
    omega
  have hw6 : wishOf (((es.take 6).map (·.1)).sum + 194) ≤ 6 := by
    have := Int.fmod_lt_of_pos (((es.take 6).map (·.1)).sum + 194) (show (0 : Int) < 6 by decide)
    show ((((es.take 6).map (·.1)).sum + 194).fmod 6).toNat + 1 ≤ 6
    omega
  have hw : wishOf (((es.take 6).map (·.1)).sum + 194) < ps.length ∨ wishOf (((es.take 6).map (·.1)).sum + 194) = 6 ∧ ps.length = 6 := by
    cases es with
    | nil =>
      left
      rw [hpn]
      decide
    | cons x es =>
      rw [List.length_cons] at hpn
      omega
  have hms1 := of_picked (P := fun x => x.length < 1000) hms mods_len
  have hpl1 := of_picked (P := fun x => x.length < 1000) hpl plain_len
  have hml := picked_short hms
  have hpll := picked_short hpl
  refine law_b (s := { s with heap := h6, toks := tk6 }) B F6 T N6 dt d2 hms hws hps1 (by omega) hw mD mO mM mW mP hE (fun h14 tk14 d14 m14 Tl T' D1 D2 H oc R rows es' zs1 zs2 nt nh k1 k2 tf tw F14 N14 hoc hR hrin hrl hes hrows e1 e2 nT nD nO nM nP nh' nW => ?_) X
  refine law_c (s := { s with heap := h14, toks := tk14, drawn := d14 }) B F14 T N14 hoc d3 hR hrin hos (by omega) hps1 (fun p hp => ⟨(hpath p hp).2, ok_of_sub (mod_sub p.1).2 (hpath p hp).2⟩) (by omega) (by omega) hms1 hpl1 (by omega) (fun zt hperm hsort => ?_) e1 e2 nT nD nO nM nP nh' nW hE (fun h' tk' m' F' => next h' tk' d14 m' F') X
  have hh := heap_all (ps := ps)
  have hz0 : ∀ z ∈ zt, lawMod z ≠ Str.ofString "<string>" := fun z hz e => by
    obtain ⟨p, hp, rfl⟩ := List.mem_map.mp (hperm.mem_iff.mp hz)
    have h1 := (hpath p hp).1
    have h2 := (mod_sub p.1).1
    rw [e] at h2
    have h3 : (Str.ofString "<string>").length = 8 := by decide
    omega
  have ht := told_rows (ans := nameAns ms es') (kf := lawMod) hh.1 (hperm.trans (hh.2.map (fun p : Str × Tok => p.1)).symm) hsort hz0
  rw [hh.2.length_eq] at ht
  rw [hrows, ht]
  refine List.map_congr_left fun z _ => ?_
  have hans := ans_eq (mods := ms) (es := es') (pls := pl) (dirs := ws.map (·.1)) (by rw [hes, List.map_map]; exact List.map_congr_left fun _ _ => by rw [Function.comp_apply]) (by rw [hpl, hws]; exact picked_plain _) (firstOf lawMod zt z) (lawMod z)
  rw [hans]
end

end

-- text: Fin
theorem holds : PySem.Challenge.rw_nq0173_01.Holds := hd (by
  k_fill
  intro w s₀ s₁ mg mb G Y fa o pm cd doc dV kV ho hfd hcd hD hmg hg args vals as hpre hlay hrd hwl hlo
  have KX := kIn_of Y
  refine Ground.open G ?_
  intro T B D TE TW
  wrow_args hpre hlay hrd hwl hlo
  all_goals (refine enter_call ?_)
  all_goals (refine codeAny_mono ?_ (fun _ _ g => GoodW.toG g))
  all_goals (have K0 := below_caller (Top.heap T))
  all_goals (w_call any ho hfd hcd hD T F)
  (rename Below callerA _ _ _ => K0)
  (rename Fr _ _ _ _ => F0)
  (rename Top _ _ _ _ _ _ => T0)
  (rename News _ _ _ _ => N0)
  (rename (hd.heap_1 _).In _ => X0)
  (rename IntsAre _ _ => hI)
  (rename Heap.IsList _ _ _ => hL)
  obtain ⟨es, rfl, hes⟩ := ints_vals hI
  refine law_all K0 F0 T0 (news_perm N0 (List.forall_mem_cons.mpr ⟨.tail _ (.tail _ (.head _)), List.forall_mem_cons.mpr ⟨.tail _ (.head _), List.forall_mem_cons.mpr ⟨.head _, List.forall_mem_nil _⟩⟩⟩)) ⟨_, by assumption⟩ ⟨_, by assumption⟩ ⟨_, by assumption⟩ rfl hL ?hlen ?hE ?next X0
  case hlen =>
    (rename ¬ (_ < _) => hc)
    have h1 := congrArg List.length hes
    rw [List.length_map] at h1
    lia
  case hE => passes_own
  case next =>
    intro h' tk' d' m' F'
    clear N0 F0
    (rename _ = #[] => hg)
    k_extra "m:steps"
    refine goodW_bool (b := true) F' hg ?hn ?hp
    case hn => intro cls; rfl
    case hp => first | wrow_post | kc_post)

end Mine
theorem PySem.Challenge.cw_nq0173_01_holds : PySem.Challenge.rw_nq0173_01.Holds := by
  exact Mine.holds
