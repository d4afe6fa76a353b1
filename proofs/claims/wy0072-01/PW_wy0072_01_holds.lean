import PyProof.Rows.All
import Wide.All
import OpenK.AllK
import Wide.FinOn
import PySem.Challenge.RW_wy0072_01
open PySem PySem.W PyProof.Rows
set_option Elab.async false
namespace Mine
set_option maxRecDepth 100000 in
set_option maxHeartbeats 8000000 in
open_top hd for PySem.Challenge.rw_wy0072_01
abbrev PG := PySem.Challenge.rw_wy0072_01.row.prog
/-- a call of the def at f, from any frame over any ledger, hands back a value of which R is so -/
abbrev Tell (w : World) (mean : ExcName → Option Value) (mg mb : Str → Option Value) (n : Nat) (f : Addr) (pre : Prop) (vs : List Value) (R : Value → Prop) : Prop :=
  ∀ (news : List (Addr × Obj)) (dp un : Nat) (gd : Option (List Code)) (cn : Str) (cs : Scope) (a : Addr) (ccd : Value) (cl : List (Str × Addr)) (outer : List Env) (A₀ : Around) (base h₀ : Heap) (L : Addr) (m : Str → Option Value) (s : Shared) (Q E : Value → Shared → Prop),
    Below A₀ base outer h₀ → Fr h₀ L s.heap m → (hd.heap_39 w.params).In h₀ → News h₀ L s.heap news → Top hd.view_39 (looseW hd.view_39 []) mean mg mb h₀ → cs.kind = .function → pre → dp + n < recursionLimit → un + 8 * n < cLine →
    (∀ (v : Value) (h' : Heap) (tk' : Nat), R v → Fr h₀ L h' m → News h₀ L h' news → Q v { s with heap := h', toks := tk' }) →
    wpAny (model PG w) (ktrTop dp un gd cn cs L a ccd cl outer) (call (.ref f) vs) Q E s
theorem fr_of {h₀ h : Heap} {L : Addr} {m m' : Str → Option Value} (F : Fr h₀ L h m) (e : ∀ z, m z = m' z) : Fr h₀ L h m' := by
  rw [show m' = m from (funext e).symm]; exact F
theorem look2 (a b : Str) (u v : Value) (z : Str) : List.lookup z [(b, v), (a, u)] = if z = b then some v else if z = a then some u else none := by
  simp only [List.lookup]
  by_cases h : z = b
  · subst h; simp
  · have : (z == b) = false := by simpa using h
    by_cases h2 : z = a
    · subst h2; simp [this, h]
    · have h3 : (z == a) = false := by simpa using h2
      simp [this, h, h2, h3]
theorem look3 (a b c : Str) (u v w : Value) (z : Str) : List.lookup z [(c, w), (b, v), (a, u)] = if z = c then some w else if z = b then some v else if z = a then some u else none := by
  rw [List.lookup, look2]
  by_cases h : z = c
  · subst h; simp
  · have : (z == c) = false := by simpa using h
    simp [this, h]
theorem tell_ret {h₀ h' : Heap} {L : Addr} {m : Str → Option Value} {news news' : List (Addr × Obj)} {s : Shared} {Q : Value → Shared → Prop} {R : Value → Prop} {v : Value} {tk : Nat}
    (hret : ∀ (v : Value) (h' : Heap) (tk' : Nat), R v → Fr h₀ L h' m → News h₀ L h' news → Q v { s with heap := h', toks := tk' })
    (hr : R v) (F : Fr h₀ L h' m) (N : News h₀ L h' news') (hn : ∀ p ∈ news, p ∈ news') : Q v { s with heap := h', toks := tk } := hret v h' tk hr F fun p hp => N p (hn p hp)
open Builtin.Str in
def sub (x y : Str) : Int := if x = y then 0 else if Txt.lower x = Txt.lower y then 1 else 2
section
set_option maxRecDepth 100000
open PySem.Calls
/-- a text of given signs -/
def S (l : List Nat) : Str := ⟨l.toArray⟩
theorem S_len (l : List Nat) : (S l).length = l.length := by simp [S, Str.length]
theorem S_list (l : List Nat) : (S l).cps.toList = l := by simp [S]
theorem S_inj {l r : List Nat} : S l = S r ↔ l = r := by
  constructor
  · intro h
    have := congrArg (fun x : Str => x.cps.toList) h
    simpa [S] using this
  · intro h; rw [h]
theorem S_beq (l r : List Nat) : (S l == S r) = decide (l = r) := by
  by_cases h : l = r
  · simp [h]
  · have : S l ≠ S r := fun e => h (S_inj.mp e)
    simp [h, this]
theorem S_from {l : List Nat} {k : Int} (h0 : 0 ≤ k) (hk : k ≤ l.length) : Txt.slice (S l) (some k) none = S (l.drop k.toNat) := by
  show StrLaws.sliceText (S l) (some k) none = _
  rw [StrLaws.sliceText_from (by rw [S_list]; omega), S_list]
  unfold S
  congr 2
  rw [List.take_of_length_le]
  simp; omega
theorem S_to {l : List Nat} {k : Int} (h0 : 0 ≤ k) (hk : k ≤ l.length) : Txt.slice (S l) none (some k) = S (l.take k.toNat) := by
  show StrLaws.sliceText (S l) none (some k) = _
  rw [StrLaws.sliceText_to (by rw [S_list]; omega), S_list]
  simp [S]
theorem S_to_neg {l : List Nat} {k : Int} (h0 : k < 0) (hk : -(l.length : Int) ≤ k) : Txt.slice (S l) none (some k) = S (l.take (k + l.length).toNat) := by
  show StrLaws.sliceText (S l) none (some k) = _
  rw [StrLaws.sliceText_to_neg h0 (by rw [S_len]; exact hk), S_list, S_len]
  simp [S]
theorem S_all (l : List Nat) : Txt.slice (S l) none none = S l := by
  unfold Txt.slice
  rw [if_pos]
  unfold Builtin.Str.strSliceIndices sliceRange
  simp
  have : ((S l).length : Int) > 0 ∨ (S l).length = 0 := by omega
  rcases this with h | h
  · rw [if_pos (by omega)]; omega
  · rw [h]; simp
theorem S_item {l : List Nat} {k : Int} (h0 : 0 ≤ k) (hk : k < l.length) : Txt.item (S l) k = S [l.getD k.toNat 0] := by
  have hn := at_getD (x := S l) (i := k) ⟨h0, by rw [S_len]; exact hk⟩
  have e : (S l).cps.getD k.toNat 0 = l.getD k.toNat 0 := by simp [S]
  unfold Txt.item Txt.charAt
  rw [StrLaws.seqIndex_nonneg h0 (by rw [S_len]; exact hk)]
  rw [Option.bind_some, hn, e]
  simp [S]
theorem S_item_neg {l : List Nat} {k : Int} (h0 : k < 0) (hk : -(l.length : Int) ≤ k) : Txt.item (S l) k = S [l.getD (k + l.length).toNat 0] := by
  have hn := at_getD (x := S l) (i := k + (S l).length) ⟨by rw [S_len]; omega, by omega⟩
  have e : (S l).cps.getD (k + (S l).length).toNat 0 = l.getD (k + l.length).toNat 0 := by rw [S_len]; simp [S]
  unfold Txt.item Txt.charAt
  rw [StrLaws.at_neg h0 (by rw [S_len]; exact hk) hn, e]
  simp [S]

section
variable {prog : Program} {w : World} {A : Around} {E : Value → Shared → Prop} {s : Shared} {value slice : Expr} {l r : List Nat} {t u : Tok} {h₀ : Heap} {L : Addr} {m : Str → Option Value} {news : List (Addr × Obj)} {Q : Value → Shared → Prop}
theorem sz_of (h : l.length ≤ 1000) : (S l).length ≤ sizeLine := by rw [S_len, sizeLine_eq]; omega
theorem sl_all (hF : Fr h₀ L s.heap m) (hN : News h₀ L s.heap news) (hz : l.length ≤ 1000) (h : ∀ h' t' k, Fr h₀ L h' m → News h₀ L h' news → Q (.str (S l) t') { s with heap := h', toks := k })
    (hs : subscripted slice false (.str (S l) t) (.ref s.heap.objs.size) = operate [.ref s.heap.objs.size, .str (S l) t] (getItem (.str (S l) t) (.ref s.heap.objs.size)) := by with_unfolding_all rfl)
    (ht : ∀ r, letTemporaryGo value (.str (S l) t) r = pure () := by intro _; with_unfolding_all rfl) :
    wpAny (model prog w) A (subscriptTail value slice (.str (S l) t) (.ref s.heap.objs.size)) Q E { s with heap := s.heap.push { cls := .type "slice", data := .fields #[.none, .none, .none] } } :=
  slice_strN_nn (s := s) hF hN (fun h' t' k a b => by rw [S_all]; exact h h' t' k a b) hs ht (sz_of hz)
theorem sl_from {i : Int} {ui : Tok} (hF : Fr h₀ L s.heap m) (hN : News h₀ L s.heap news) (hz : l.length ≤ 1000) (h0 : 0 ≤ i) (h1 : i ≤ l.length) (h : ∀ h' t' k, Fr h₀ L h' m → News h₀ L h' news → Q (.str (S (l.drop i.toNat)) t') { s with heap := h', toks := k })
    (hs : subscripted slice false (.str (S l) t) (.ref s.heap.objs.size) = operate [.ref s.heap.objs.size, .str (S l) t] (getItem (.str (S l) t) (.ref s.heap.objs.size)) := by with_unfolding_all rfl)
    (ht : ∀ r, letTemporaryGo value (.str (S l) t) r = pure () := by intro _; with_unfolding_all rfl) :
    wpAny (model prog w) A (subscriptTail value slice (.str (S l) t) (.ref s.heap.objs.size)) Q E { s with heap := s.heap.push { cls := .type "slice", data := .fields #[.int i ui, .none, .none] } } :=
  slice_strN_sn (s := s) hF hN (fun h' t' k a b => by rw [S_from h0 h1]; exact h h' t' k a b) hs ht (sz_of hz)
theorem sl_to {j : Int} {uj : Tok} (hF : Fr h₀ L s.heap m) (hN : News h₀ L s.heap news) (hz : l.length ≤ 1000) (h0 : 0 ≤ j) (h1 : j ≤ l.length) (h : ∀ h' t' k, Fr h₀ L h' m → News h₀ L h' news → Q (.str (S (l.take j.toNat)) t') { s with heap := h', toks := k })
    (hs : subscripted slice false (.str (S l) t) (.ref s.heap.objs.size) = operate [.ref s.heap.objs.size, .str (S l) t] (getItem (.str (S l) t) (.ref s.heap.objs.size)) := by with_unfolding_all rfl)
    (ht : ∀ r, letTemporaryGo value (.str (S l) t) r = pure () := by intro _; with_unfolding_all rfl) :
    wpAny (model prog w) A (subscriptTail value slice (.str (S l) t) (.ref s.heap.objs.size)) Q E { s with heap := s.heap.push { cls := .type "slice", data := .fields #[.none, .int j uj, .none] } } :=
  slice_strN_ns (s := s) hF hN (fun h' t' k a b => by rw [S_to h0 h1]; exact h h' t' k a b) hs ht (sz_of hz)
theorem sl_to_neg {j : Int} {uj : Tok} (hF : Fr h₀ L s.heap m) (hN : News h₀ L s.heap news) (hz : l.length ≤ 1000) (h0 : j < 0) (h1 : -(l.length : Int) ≤ j) (h : ∀ h' t' k, Fr h₀ L h' m → News h₀ L h' news → Q (.str (S (l.take (j + l.length).toNat)) t') { s with heap := h', toks := k })
    (hs : subscripted slice false (.str (S l) t) (.ref s.heap.objs.size) = operate [.ref s.heap.objs.size, .str (S l) t] (getItem (.str (S l) t) (.ref s.heap.objs.size)) := by with_unfolding_all rfl)
    (ht : ∀ r, letTemporaryGo value (.str (S l) t) r = pure () := by intro _; with_unfolding_all rfl) :
    wpAny (model prog w) A (subscriptTail value slice (.str (S l) t) (.ref s.heap.objs.size)) Q E { s with heap := s.heap.push { cls := .type "slice", data := .fields #[.none, .int j uj, .none] } } :=
  slice_strN_ns (s := s) hF hN (fun h' t' k a b => by rw [S_to_neg h0 h1]; exact h h' t' k a b) hs ht (sz_of hz)
theorem it_pos {i : Int} (hz : l.length ≤ 1000) (h0 : 0 ≤ i) (h1 : i < l.length) (h : Q (.str (S [l.getD i.toNat 0]) s.toks) { s with toks := s.toks + 1 })
    (hs : subscripted slice false (.str (S l) t) (.int i u) = operate [.str (S l) t, .int i u] (getItem (.str (S l) t) (.int i u)) := by with_unfolding_all rfl)
    (ht : ∀ r, letTemporaryGo value (.str (S l) t) r = pure () := by intro _; with_unfolding_all rfl) :
    wpAny (model prog w) A (subscriptTail value slice (.str (S l) t) (.int i u)) Q E s :=
  item_str (fitsSsize_of (N := 9223372036854775808) (by omega) (by omega) (Int.le_refl _)) (by rw [S_len]; omega) (by rw [S_len]; omega) (fun _ => by rw [S_item h0 h1]; exact h) hs ht
theorem it_neg {i : Int} (hz : l.length ≤ 1000) (h0 : i < 0) (h1 : -(l.length : Int) ≤ i) (h : Q (.str (S [l.getD (i + l.length).toNat 0]) s.toks) { s with toks := s.toks + 1 })
    (hs : subscripted slice false (.str (S l) t) (.int i u) = operate [.str (S l) t, .int i u] (getItem (.str (S l) t) (.int i u)) := by with_unfolding_all rfl)
    (ht : ∀ r, letTemporaryGo value (.str (S l) t) r = pure () := by intro _; with_unfolding_all rfl) :
    wpAny (model prog w) A (subscriptTail value slice (.str (S l) t) (.int i u)) Q E s :=
  item_str (fitsSsize_of (N := 9223372036854775808) (by omega) (by omega) (Int.le_refl _)) (by rw [S_len]; omega) (by rw [S_len]; omega) (fun _ => by rw [S_item_neg h0 h1]; exact h) hs ht
theorem len_S {n : Nat} (e : l.length = n) (hz : n ≤ 1000) (h : Q (.int (n : Int) (s.toks + 1)) { s with toks := s.toks + 1 + 1 }) : wpAny (model prog w) A (call (.builtin "len") [.str (S l) t]) Q E s :=
  P.len_str (by rw [S_len]; omega) (by rw [S_len, e]; exact h)
theorem truthy_S {Q : Bool → Shared → Prop} {n : Nat} (e : l.length = n) (hz : n ≤ 1000) (h : ∀ k, Q (decide (0 < n)) { s with toks := k }) : wpAny (model prog w) A (PySem.truthy (.str (S l) t)) Q E s := by
  subst e
  refine P.truthy_str (by rw [S_len]; omega) ?_
  have e : (((S l).length : Int) != 0) = decide (0 < l.length) := by
    rw [S_len]; by_cases h : 0 < l.length
    · rw [decide_eq_true h]; exact bne_iff_ne.mpr (by omega)
    · have : l.length = 0 := by omega
      simp [this]
  rw [e]; exact h _
theorem eq_S {Q : Value → Shared → Prop} (h : Q (.bool (decide (l = r))) s) : wpAny (model prog w) A (compareOp .Eq (.str (S l) t) (.str (S r) u)) Q E s :=
  eq_str (by rw [S_beq]; exact h)
end

def WhTurn (h₀ : Heap) (L : Addr) (news : List (Addr × Obj)) (y : Str) (m₀ : Str → Option Value) (P : Int → Prop) (μ : Int → Nat) (n : Nat) (s₁ : Shared) (Q : Flow → Shared → Prop) (f : Flow) (s₂ : Shared) : Prop :=
  match f with
  | .ret v => Q (.ret v) s₂
  | .brk => Q .next s₂
  | _ => ∃ i t h' tk m', s₂ = { s₁ with heap := h', toks := tk } ∧ Fr h₀ L h' m' ∧ News h₀ L h' news ∧ m' y = some (.int i t) ∧ (∀ z, z ≠ y → m' z = m₀ z) ∧ P i ∧ μ i < n
def WhDone (h₀ : Heap) (L : Addr) (news : List (Addr × Obj)) (y : Str) (m₀ : Str → Option Value) (D : Int → Prop) (s₁ : Shared) (s₂ : Shared) : Prop :=
  ∃ i t h' tk, s₂ = { s₁ with heap := h', toks := tk } ∧ Fr h₀ L h' (fun z => if z = y then some (.int i t) else m₀ z) ∧ News h₀ L h' news ∧ D i
theorem wh_end {h₀ : Heap} {L : Addr} {news news' : List (Addr × Obj)} {y : Str} {m₀ m' : Str → Option Value} {P : Int → Prop} {μ : Int → Nat} {n : Nat} {s₁ : Shared} {Q : Flow → Shared → Prop} {h' : Heap} {tk : Nat} {i : Int} {t : Tok}
    (F : Fr h₀ L h' m') (N : News h₀ L h' news') (hn : ∀ p ∈ news, p ∈ news') (hy : m' y = some (.int i t)) (hz : ∀ z, z ≠ y → m' z = m₀ z) (hp : P i) (hm : μ i < n) : WhTurn h₀ L news y m₀ P μ n s₁ Q .next { s₁ with heap := h', toks := tk } :=
  ⟨i, t, h', tk, m', rfl, F, fun p hp => N p (hn p hp), hy, hz, hp, hm⟩
theorem wh_done {h₀ : Heap} {L : Addr} {news news' : List (Addr × Obj)} {y : Str} {m₀ : Str → Option Value} {D : Int → Prop} {s₁ : Shared} {h' : Heap} {tk : Nat} {i : Int} {t : Tok}
    (F : Fr h₀ L h' (fun z => if z = y then some (.int i t) else m₀ z)) (N : News h₀ L h' news') (hn : ∀ p ∈ news, p ∈ news') (hp : D i) : WhDone h₀ L news y m₀ D s₁ { s₁ with heap := h', toks := tk } :=
  ⟨i, t, h', tk, rfl, F, fun p hp => N p (hn p hp), hp⟩
/-- a while that turns one int; its ways out meet -/
theorem while_int {prog : Program} {w : World} {A : Around} {E : Value → Shared → Prop} {Q : Flow → Shared → Prop} {s : Shared} {env : Env} {h₀ : Heap} {L : Addr} {test : Expr} {body : List Stmt} {pos : Pos} {m₀ : Str → Option Value} {news : List (Addr × Obj)}
    (y : Str) (P D : Int → Prop) (μ : Int → Nat) {i₀ : Int} {t₀ : Tok}
    (F : Fr h₀ L s.heap m₀) (N : News h₀ L s.heap news) (hy : m₀ y = some (.int i₀ t₀)) (hp : P i₀)
    (turn : ∀ i t h tk, P i → Fr h₀ L h (fun z => if z = y then some (.int i t) else m₀ z) → News h₀ L h news →
      wpAny (model prog w) A (isTrue test env (eval test env)) (fun b s₂ =>
        if b = true then wpAny (model prog w) A (execs body env) (WhTurn h₀ L news y m₀ P μ (μ i) s Q) E s₂ else WhDone h₀ L news y m₀ D s s₂) E { s with heap := h, toks := tk })
    (done : ∀ i t h tk, D i → Fr h₀ L h (fun z => if z = y then some (.int i t) else m₀ z) → News h₀ L h news → Q .next { s with heap := h, toks := tk })
    (hE : PassesOwn (model prog w) A env E := by passes_own) :
    wpAny (model prog w) A (exec (.While test body [] pos) env) Q E s := by
  have fr : ∀ {h : Heap} {m : Str → Option Value} {i : Int} {t : Tok}, m y = some (.int i t) → (∀ z, z ≠ y → m z = m₀ z) → Fr h₀ L h m → Fr h₀ L h (fun z => if z = y then some (.int i t) else m₀ z) := by
    intro h m i t h1 h2 F'
    have e : (fun z => if z = y then some (Value.int i t) else m₀ z) = m := by
      funext z
      by_cases hz : z = y
      · rw [if_pos hz, hz, h1]
      · rw [if_neg hz, h2 z hz]
    rw [e]; exact F'
  refine While_inv2 (fun n m nx => nx = news ∧ ∃ i t, m y = some (.int i t) ∧ (∀ z, z ≠ y → m z = m₀ z) ∧ P i ∧ μ i = n) F N ⟨rfl, i₀, t₀, hy, fun _ _ => rfl, hp, rfl⟩ ?_ hE
  rintro n m₁ nx h tk F₁ N₁ ⟨rfl, i, t, h1, h2, hp', rfl⟩
  refine wpAny_mono (turn i t h tk hp' (fr h1 h2 F₁) N₁) (fun b s₂ p => ?_) fun _ _ x => x
  cases b with
  | false =>
    simp only [Bool.false_eq_true, if_false] at p ⊢
    obtain ⟨i', t', h', tk', rfl, F', N', hd⟩ := p
    exact done i' t' h' tk' hd F' N'
  | true =>
    simp only [if_true] at p ⊢
    refine wpAny_mono p (fun f s₃ q => ?_) fun _ _ x => x
    cases f with
    | ret v => exact q
    | brk => exact q
    | next =>
      obtain ⟨i', t', h', tk', m', rfl, F', N', a, b, c, d⟩ := q
      exact ⟨h', tk', m', nx, μ i', rfl, F', N', d, rfl, i', t', a, b, c, rfl⟩
    | cont =>
      obtain ⟨i', t', h', tk', m', rfl, F', N', a, b, c, d⟩ := q
      exact ⟨h', tk', m', nx, μ i', rfl, F', N', d, rfl, i', t', a, b, c, rfl⟩

def Stop (P : Prop) : Prop := P
theorem stop_of {P : Prop} (h : Stop P) : P := h
theorem unstop {P : Prop} (h : P) : Stop P := h

def CutPost (h₀ : Heap) (L : Addr) (m : Str → Option Value) (news : List (Addr × Obj)) (s : Shared) (l : List Nat) (i : Int) (v : Value) (s' : Shared) : Prop :=
  ∃ t' h' k, v = .str (S (l.take (i + l.length).toNat)) t' ∧ s' = { s with heap := h', toks := k } ∧ Fr h₀ L h' m ∧ News h₀ L h' news
theorem cut_post2 {h₀ h' : Heap} {L : Addr} {m : Str → Option Value} {news : List (Addr × Obj)} {s : Shared} {l : List Nat} {i : Int} {t : Tok} {k : Nat} (F : Fr h₀ L h' m) (N : News h₀ L h' news) :
    CutPost h₀ L m news s l i (.str (S (l.take (i + l.length).toNat)) t) { s with heap := h', toks := k } := ⟨t, h', k, rfl, rfl, F, N⟩
theorem cut_post1 {h₀ h' : Heap} {L : Addr} {m : Str → Option Value} {news : List (Addr × Obj)} {s : Shared} {l : List Nat} {i : Int} {t : Tok} {k : Nat} (h : i = 0) (F : Fr h₀ L h' m) (N : News h₀ L h' news) :
    CutPost h₀ L m news s l i (.str (S l) t) { s with heap := h', toks := k } := by
  subst h
  refine ⟨t, h', k, ?_, rfl, F, N⟩
  rw [List.take_of_length_le (by omega)]
theorem join_cut {M : Model} {A : Around} {E : Value → Shared → Prop} {Q : Value → Shared → Prop} {s : Shared} {env : Env} {h₀ : Heap} {L : Addr} {m : Str → Option Value} {news : List (Addr × Obj)} {nm pn : Str} {p1 p2 p3 p4 p5 p6 : Pos} {c : Nat} {l : List Nat} {i : Int} {t u : Tok}
    (_F : Fr h₀ L s.heap m) (_N : News h₀ L s.heap news) (_ha : m nm = some (.str (S l) t)) (_hi : m pn = some (.int i u))
    (h1 : wpAny M A (eval (.Subscript (.Name nm p1) (.Slice none (some (.BoolOp .Or [.Name pn p2, .Constant .none c p3] p4)) none p5) p6) env) (CutPost h₀ L m news s l i) E s)
    (h2 : ∀ t' h' k, Fr h₀ L h' m → News h₀ L h' news → Q (.str (S (l.take (i + l.length).toNat)) t') { s with heap := h', toks := k }) :
    wpAny M A (eval (.Subscript (.Name nm p1) (.Slice none (some (.BoolOp .Or [.Name pn p2, .Constant .none c p3] p4)) none p5) p6) env) Q E s := by
  refine wpAny_mono h1 (fun v s' p => ?_) fun _ _ x => x
  obtain ⟨t', h', k, rfl, rfl, F', N'⟩ := p
  exact h2 t' h' k F' N'

def SwapPost (h₀ : Heap) (L : Addr) (m : Str → Option Value) (news : List (Addr × Obj)) (s : Shared) (x y : List Nat) (f : Flow) (s' : Shared) : Prop :=
  f = .next ∧ ∃ p q ta tb h' k, s' = { s with heap := h', toks := k } ∧ (p = x ∧ q = y ∨ p = y ∧ q = x) ∧ p.length ≤ q.length ∧
    Fr h₀ L h' (fun z => if z = Str.ofString "b" then some (.str (S q) tb) else if z = Str.ofString "a" then some (.str (S p) ta) else m z) ∧ News h₀ L h' news
theorem swap_yes {h₀ h' : Heap} {L : Addr} {m : Str → Option Value} {news news' : List (Addr × Obj)} {s : Shared} {x y : List Nat} {ta tb : Tok} {k : Nat} (h : y.length ≤ x.length)
    (F : Fr h₀ L h' (fun z => if z = Str.ofString "a" then some (.str (S y) ta) else if z = Str.ofString "b" then some (.str (S x) tb) else m z)) (N : News h₀ L h' news') (hn : ∀ p ∈ news, p ∈ news') :
    SwapPost h₀ L m news s x y .next { s with heap := h', toks := k } := by
  refine ⟨rfl, y, x, ta, tb, h', k, rfl, .inr ⟨rfl, rfl⟩, h, fr_of F fun z => ?_, fun p hp => N p (hn p hp)⟩
  by_cases h1 : z = Str.ofString "b"
  · have h2 : ¬ z = Str.ofString "a" := fun e => by rw [h1] at e; revert e; decide +kernel
    rw [if_neg h2, if_pos h1, if_pos h1]
  · simp only [if_neg h1]
theorem swap_no {h₀ h' : Heap} {L : Addr} {m : Str → Option Value} {news news' : List (Addr × Obj)} {s : Shared} {x y : List Nat} {ta tb : Tok} {k : Nat} (h : x.length ≤ y.length)
    (F : Fr h₀ L h' m) (ha : m (Str.ofString "a") = some (.str (S x) ta)) (hb : m (Str.ofString "b") = some (.str (S y) tb)) (N : News h₀ L h' news') (hn : ∀ p ∈ news, p ∈ news') :
    SwapPost h₀ L m news s x y .next { s with heap := h', toks := k } := by
  refine ⟨rfl, x, y, ta, tb, h', k, rfl, .inl ⟨rfl, rfl⟩, h, fr_of F fun z => ?_, fun p hp => N p (hn p hp)⟩
  by_cases h1 : z = Str.ofString "b"
  · rw [if_pos h1, h1, hb]
  · rw [if_neg h1]
    by_cases h2 : z = Str.ofString "a"
    · rw [if_pos h2, h2, ha]
    · rw [if_neg h2]
theorem join_swap {M : Model} {A : Around} {E : Value → Shared → Prop} {Q : Flow → Shared → Prop} {s : Shared} {env : Env} {h₀ : Heap} {L : Addr} {m : Str → Option Value} {news : List (Addr × Obj)} {st : Stmt} {x y : List Nat} (_F : Fr h₀ L s.heap m) (_N : News h₀ L s.heap news)
    (h1 : wpAny M A (exec st env) (SwapPost h₀ L m news s x y) E s)
    (h2 : ∀ p q ta tb h' k, (p = x ∧ q = y ∨ p = y ∧ q = x) → p.length ≤ q.length → Fr h₀ L h' (fun z => if z = Str.ofString "b" then some (.str (S q) tb) else if z = Str.ofString "a" then some (.str (S p) ta) else m z) → News h₀ L h' news → Q .next { s with heap := h', toks := k }) :
    wpAny M A (exec st env) Q E s := by
  refine wpAny_mono h1 (fun f s' z => ?_) fun _ _ x => x
  obtain ⟨rfl, p, q, ta, tb, h', k, rfl, a, b, F', N'⟩ := z
  exact h2 p q ta tb h' k a b F' N'
def row0 (n : Nat) : List Int := (List.range n).map fun (k : Nat) => 2 * ((k : Int) + 1)
theorem row0_len (n : Nat) : (row0 n).length = n := by simp [row0]
theorem row0_get {n k : Nat} (h : k < n) : (row0 n).getD k 0 = 2 * ((k : Int) + 1) := by
  simp [row0, List.getD_eq_getElem?_getD, h]
theorem ints_get {f : Nat → Int} : ∀ (vs : List Value) (o : Nat), (∀ (j : Nat) (v : Value), vs[j]? = some v → ∃ t, v = .int (f (o + j)) t) → IntsAre vs ((List.range vs.length).map fun k => f (o + k))
  | [], o, _ => IntsAre.nil
  | v :: r, o, h => by
    obtain ⟨t, ht⟩ := h 0 v rfl
    subst ht
    rw [List.length_cons, List.range_succ_eq_map, List.map_cons, List.map_map]
    refine IntsAre.cons _ _ ?_
    have := ints_get r (o + 1) fun j v hj => by
      obtain ⟨t', ht'⟩ := h (j + 1) v hj
      exact ⟨t', by rw [ht']; congr 2; omega⟩
    have e : ((fun k => f (o + k)) ∘ Nat.succ) = fun k => f (o + 1 + k) := by funext k; show f (o + (k + 1)) = _; congr 1; omega
    rw [e]; exact this
theorem size2 (n : Nat) : Builtin.Range.rangeSize 2 (2 * ((n : Int) + 1)) 2 = (n : Int) := by
  unfold Builtin.Range.rangeSize
  simp only [show (2 : Int) > 0 by decide, if_true]
  split <;> omega
theorem small2 (n : Nat) (h : n ≤ 1000) : Builtin.Range.small 2 (2 * ((n : Int) + 1)) 2 = true := by
  unfold Builtin.Range.small
  rw [size2]
  have e : ∀ i : Int, 0 ≤ i → i ≤ 4000 → Builtin.Range.rangeFitsLong i = true := fun i h0 h1 => by
    unfold Builtin.Range.rangeFitsLong
    rw [decide_eq_true (by omega : -(2 ^ 63) ≤ i), decide_eq_true (by omega : i < 2 ^ 63)]; rfl
  rw [if_pos (by decide : (2 : Int) > 0)]
  rw [e 2 (by omega) (by omega), e (2 * ((n : Int) + 1)) (by omega) (by omega)]
  simp
  exact ⟨e _ (by omega) (by omega), .inr (e _ (by omega) (by omega))⟩
theorem list_r2 {prog : Program} {w : World} {A : Around} {E : Value → Shared → Prop} {s : Shared} {h₀ : Heap} {L r : Addr} {m : Str → Option Value} {news : List (Addr × Obj)} {t₀ u₀ v₀ : Tok} {n : Nat} {Q : Value → Shared → Prop}
    (hh : A.handled = none) (F : Fr h₀ L s.heap m) (N : News h₀ L s.heap news) (hr : IsRange s.heap r 2 (2 * ((n : Int) + 1)) 2 t₀ u₀ v₀) (hz : n ≤ 1000)
    (h : ∀ D us c h' tk, Fr h₀ L h' m → News h₀ L h' ((D, listOf (List.toArray us) c) :: news) → (∀ p ∈ news, p.1 < D) → IntsAre us (row0 n) → Q (.ref D) { s with heap := h', toks := tk }) :
    wpAny (model prog w) A (call (.type "list") [.ref r]) Q E s := by
  refine call_list_range hh hr (small2 n hz) (size2 n) (by omega) fun h' tk acc c hk hD hI => ?_
  have hD' : h'.get? s.heap.objs.size = some (listOf (List.toArray acc.toList) c) := by
    rw [Array.toArray_toList]
    exact hD
  refine h _ acc.toList c h' tk (F.keeps hk) (news_pushed F N hk hD' rfl) (fun p hp => Heap.lt_size (N p hp).1) ?_
  have hl : acc.toList.length = n := by rw [Array.length_toList]; exact hI.1
  have := ints_get (f := fun k => 2 * ((k : Int) + 1)) acc.toList 0 fun j v hj => by
    obtain ⟨t, ht⟩ := hI.2 j v (by rw [← hj, Array.getElem?_toList])
    exact ⟨t, by rw [ht]; congr 1; simp; omega⟩
  rw [hl] at this
  simpa [row0] using this
end
section
set_option maxRecDepth 100000
open PySem.Calls
/-- what one sign for another costs -/
def cost (c d : Nat) : Int := sub (S [c]) (S [d])
theorem sub_range (x y : Str) : 0 ≤ sub x y ∧ sub x y ≤ 2 := by
  unfold sub; split
  · omega
  · split <;> omega
theorem sub_symm (x y : Str) : sub x y = sub y x := by
  unfold sub
  by_cases h : x = y
  · simp [h]
  · have h' : ¬ y = x := fun e => h e.symm
    by_cases h2 : Txt.lower x = Txt.lower y
    · simp [h, h', h2]
    · have h2' : ¬ Txt.lower y = Txt.lower x := fun e => h2 e.symm
      simp [h, h', h2, h2']
theorem cost_range (c d : Nat) : 0 ≤ cost c d ∧ cost c d ≤ 2 := sub_range _ _
theorem cost_symm (c d : Nat) : cost c d = cost d c := sub_symm _ _
/-- the price of the first i of q by the first j of p -/
def dist (p q : List Nat) (i j : Nat) : Int :=
  match i, j with
  | 0, j => 2 * (j : Int)
  | i + 1, 0 => 2 * ((i : Int) + 1)
  | i + 1, j + 1 => min (min (dist p q i (j + 1)) (dist p q (i + 1) j) + 2) (dist p q i j + cost (q.getD i 0) (p.getD j 0))
termination_by (i, j)
theorem dist_0 (p q : List Nat) (j : Nat) : dist p q 0 j = 2 * (j : Int) := by rw [dist]
theorem dist_s0 (p q : List Nat) (i : Nat) : dist p q (i + 1) 0 = 2 * ((i : Int) + 1) := by rw [dist]
theorem dist_i0 (p q : List Nat) (i : Nat) : dist p q i 0 = 2 * (i : Int) := by
  cases i with
  | zero => rw [dist_0]
  | succ i => rw [dist_s0]; omega
theorem dist_ss (p q : List Nat) (i j : Nat) : dist p q (i + 1) (j + 1) = min (min (dist p q i (j + 1)) (dist p q (i + 1) j) + 2) (dist p q i j + cost (q.getD i 0) (p.getD j 0)) := by rw [dist]
theorem dist_symm (p q : List Nat) : ∀ i j, dist p q i j = dist q p j i := by
  intro i
  induction i with
  | zero => intro j; rw [dist_0, dist_i0]
  | succ i ih =>
    intro j
    induction j with
    | zero => rw [dist_s0, dist_0]; rfl
    | succ j jh => rw [dist_ss, dist_ss, ih (j + 1), jh, ih j, cost_symm]; omega
theorem dist_lo (p q : List Nat) : ∀ i j : Nat, 2 * ((i : Int) - (j : Int)) ≤ dist p q i j := by
  intro i
  induction i with
  | zero => intro j; rw [dist_0]; omega
  | succ i ih =>
    intro j
    induction j with
    | zero => rw [dist_s0]; omega
    | succ j jh =>
      rw [dist_ss]
      have := ih (j + 1); have := ih j; have := cost_range (q.getD i 0) (p.getD j 0)
      omega
/-- a turn of the program's inner loop, its first cell's left neighbour is too low by two, which does not matter -/
theorem dist_turn (p q : List Nat) (i j : Nat) (res : Int)
    (h : res = if j = 0 then (2 : Int) * ((i : Nat) : Int) else dist p q (i + 1) j) :
    min (min res (dist p q i (j + 1)) + 2) (dist p q i j + cost (q.getD i 0) (p.getD j 0)) = dist p q (i + 1) (j + 1) := by
  rw [dist_ss]
  have := cost_range (q.getD i 0) (p.getD j 0)
  cases j with
  | zero =>
    rw [dist_s0, dist_i0] at *
    simp at h
    subst h
    omega
  | succ j =>
    simp at h
    subst h
    omega
theorem dist_above (p q : List Nat) (B : Int) (n : Nat) {i : Nat} (h : ∀ k, k ≤ n → B < dist p q i k) : ∀ m, i ≤ m → ∀ k, k ≤ n → B < dist p q m k := by
  intro m hm
  induction m with
  | zero => intro k hk; have : i = 0 := by omega
            subst this; exact h k hk
  | succ m ih =>
    by_cases e : i = m + 1
    · subst e; exact h
    · have ih := ih (by omega)
      intro k hk
      induction k with
      | zero => have := ih 0 (by omega); rw [dist_i0] at *; omega
      | succ k kh =>
        have h1 := kh (by omega)
        have h2 := ih (k + 1) hk
        have h3 := ih k (by omega)
        have := cost_range (q.getD m 0) (p.getD k 0)
        rw [dist_ss]; omega
theorem dist_row (p q : List Nat) (B : Int) {n i : Nat} (hn : 0 < n) (h : ∀ k, k < n → B < dist p q (i + 1) (k + 1)) : ∀ m, i + 1 ≤ m → B < dist p q m n := by
  intro m hm
  refine dist_above p q B n (i := i + 1) ?_ m hm n (Nat.le_refl n)
  intro k hk
  cases k with
  | zero =>
    have h1 := h 0 hn
    rw [dist_ss] at h1
    have := cost_range (q.getD i 0) (p.getD 0 0)
    rw [dist_i0 p q i] at h1
    rw [dist_i0]
    omega
  | succ k => exact h k hk
/-- the least price -/
def ED (x y : List Nat) : Int := dist y x x.length y.length
theorem ED_symm (x y : List Nat) : ED x y = ED y x := dist_symm _ _ _ _

def IsPre (x y : List Nat) (k : Nat) : Prop := k ≤ x.length ∧ k ≤ y.length ∧ x.take k = y.take k ∧ (k < x.length → k < y.length → x.getD k 0 ≠ y.getD k 0)
def IsPost (x y : List Nat) (k : Nat) : Prop := k ≤ x.length ∧ k ≤ y.length ∧ x.drop (x.length - k) = y.drop (y.length - k) ∧ (k < x.length → k < y.length → x.getD (x.length - 1 - k) 0 ≠ y.getD (y.length - 1 - k) 0)
def Trim (x y a b : List Nat) : Prop := ∃ k j, IsPre x y k ∧ IsPost (x.drop k) (y.drop k) j ∧ a = (x.drop k).take ((x.drop k).length - j) ∧ b = (y.drop k).take ((y.drop k).length - j)
theorem getD_take {x y : List Nat} {k i : Nat} (h : x.take k = y.take k) (hi : i < k) : x.getD i 0 = y.getD i 0 := by
  have h1 := congrArg (fun l : List Nat => l.getD i 0) h
  simpa [List.getD_eq_getElem?_getD, List.getElem?_take, hi] using h1
theorem getD_drop {x y : List Nat} {a b i : Nat} (h : x.drop a = y.drop b) : x.getD (a + i) 0 = y.getD (b + i) 0 := by
  have h1 := congrArg (fun l : List Nat => l.getD i 0) h
  simpa [List.getD_eq_getElem?_getD, List.getElem?_drop] using h1
theorem take_one {x y : List Nat} {k : Nat} (hx : k < x.length) (hy : k < y.length) (h : x.take k = y.take k) (e : x.getD k 0 = y.getD k 0) : x.take (k + 1) = y.take (k + 1) := by
  rw [List.take_add_one, List.take_add_one, h, List.getElem?_eq_getElem hx, List.getElem?_eq_getElem hy]
  simp only [List.getD_eq_getElem?_getD, List.getElem?_eq_getElem hx, List.getElem?_eq_getElem hy, Option.getD_some] at e
  rw [e]
theorem drop_one {x y : List Nat} {a b : Nat} (hx : a < x.length) (hy : b < y.length) (h : x.drop (a + 1) = y.drop (b + 1)) (e : x.getD a 0 = y.getD b 0) : x.drop a = y.drop b := by
  rw [List.drop_eq_getElem_cons hx, List.drop_eq_getElem_cons hy, h]
  simp only [List.getD_eq_getElem?_getD, List.getElem?_eq_getElem hx, List.getElem?_eq_getElem hy, Option.getD_some] at e
  rw [e]
theorem pre_uniq {x y : List Nat} {k j : Nat} (h1 : IsPre x y k) (h2 : IsPre x y j) : k = j := by
  obtain ⟨a, b, c, d⟩ := h1
  obtain ⟨a', b', c', d'⟩ := h2
  rcases Nat.lt_trichotomy k j with h | h | h
  · exact absurd (getD_take c' h) (d (by omega) (by omega))
  · exact h
  · exact absurd (getD_take c h) (d' (by omega) (by omega))
theorem post_uniq {x y : List Nat} {k j : Nat} (h1 : IsPost x y k) (h2 : IsPost x y j) : k = j := by
  obtain ⟨a, b, c, d⟩ := h1
  obtain ⟨a', b', c', d'⟩ := h2
  rcases Nat.lt_trichotomy k j with h | h | h
  · refine absurd ?_ (d (by omega) (by omega))
    have := getD_drop c' (i := j - 1 - k)
    rw [show x.length - j + (j - 1 - k) = x.length - 1 - k by omega, show y.length - j + (j - 1 - k) = y.length - 1 - k by omega] at this
    exact this
  · exact h
  · refine absurd ?_ (d' (by omega) (by omega))
    have := getD_drop c (i := k - 1 - j)
    rw [show x.length - k + (k - 1 - j) = x.length - 1 - j by omega, show y.length - k + (k - 1 - j) = y.length - 1 - j by omega] at this
    exact this
theorem trim_uniq {x y a b a' b' : List Nat} (h1 : Trim x y a b) (h2 : Trim x y a' b') : a' = a ∧ b' = b := by
  obtain ⟨k, j, hk, hj, rfl, rfl⟩ := h1
  obtain ⟨k', j', hk', hj', rfl, rfl⟩ := h2
  have e := pre_uniq hk hk'
  subst e
  have e := post_uniq hj hj'
  subst e
  exact ⟨rfl, rfl⟩
theorem pre_symm {x y : List Nat} {k : Nat} (h : IsPre x y k) : IsPre y x k := ⟨h.2.1, h.1, h.2.2.1.symm, fun a b e => h.2.2.2 b a e.symm⟩
theorem post_symm {x y : List Nat} {k : Nat} (h : IsPost x y k) : IsPost y x k := ⟨h.2.1, h.1, h.2.2.1.symm, fun a b e => h.2.2.2 b a e.symm⟩
theorem trim_symm {x y a b : List Nat} (h : Trim x y a b) : Trim y x b a := by
  obtain ⟨k, j, hk, hj, rfl, rfl⟩ := h
  exact ⟨k, j, pre_symm hk, post_symm hj, rfl, rfl⟩
theorem pre_of_max {x y : List Nat} {k : Nat} (hx : k ≤ x.length) (hy : k ≤ y.length) (h : x.take k = y.take k) (m : ∀ i, i ≤ x.length → i ≤ y.length → x.take i = y.take i → i ≤ k) : IsPre x y k :=
  ⟨hx, hy, h, fun a b e => absurd (m (k + 1) a b (take_one a b h e)) (by omega)⟩
theorem post_of_max {x y : List Nat} {k : Nat} (hx : k ≤ x.length) (hy : k ≤ y.length) (h : x.drop (x.length - k) = y.drop (y.length - k)) (m : ∀ i, i ≤ x.length → i ≤ y.length → x.drop (x.length - i) = y.drop (y.length - i) → i ≤ k) : IsPost x y k := by
  refine ⟨hx, hy, h, fun a b e => absurd (m (k + 1) a b ?_) (by omega)⟩
  rw [show x.length - (k + 1) = x.length - 1 - k by omega, show y.length - (k + 1) = y.length - 1 - k by omega]
  refine drop_one (by omega) (by omega) ?_ e
  rw [show x.length - 1 - k + 1 = x.length - k by omega, show y.length - 1 - k + 1 = y.length - k by omega]
  exact h
theorem trim_self (x : List Nat) : Trim x x [] [] := by
  refine ⟨x.length, 0, ⟨Nat.le_refl _, Nat.le_refl _, rfl, fun h => absurd h (by omega)⟩, ⟨Nat.zero_le _, Nat.zero_le _, rfl, ?_⟩, ?_, ?_⟩
  · intro h; simp at h
  · simp
  · simp
theorem trim_len {x y a b : List Nat} (h : Trim x y a b) : a.length ≤ x.length ∧ b.length ≤ y.length := by
  obtain ⟨k, j, _, _, rfl, rfl⟩ := h
  simp only [List.length_take, List.length_drop]
  omega
theorem trim_sub {x y a b : List Nat} (h : Trim x y a b) : (∀ c ∈ a, c ∈ x) ∧ (∀ c ∈ b, c ∈ y) := by
  obtain ⟨k, j, _, _, rfl, rfl⟩ := h
  exact ⟨fun c hc => List.mem_of_mem_drop (List.mem_of_mem_take hc), fun c hc => List.mem_of_mem_drop (List.mem_of_mem_take hc)⟩
/-- what the program's answer is, of the trimmed words -/
def LevSays (x y : List Nat) (b r : Int) : Prop := ∃ x' y', Trim x y x' y' ∧ (x' = [] ∨ y' = [] → r = 2 * ((x'.length : Int) + (y'.length : Int))) ∧ (x' ≠ [] → y' ≠ [] → (ED x' y' ≤ b → r = ED x' y') ∧ (b < ED x' y' → b < r))

def OutW (p q : List Nat) (i : Nat) (row : List Int) (res : Int) : Prop := row.length = p.length ∧ (∀ k, k < p.length → row.getD k 0 = dist p q i (k + 1)) ∧ (i ≠ 0 → res = dist p q i p.length)
def InW (p q : List Nat) (i j : Nat) (row : List Int) (dis res mini : Int) : Prop := row.length = p.length ∧ (∀ k, k < p.length → row.getD k 0 = if k < j then dist p q (i + 1) (k + 1) else dist p q i (k + 1)) ∧
  dis = dist p q i j ∧ res = (if j = 0 then (2 : Int) * ((i : Nat) : Int) else dist p q (i + 1) j) ∧ (∀ k, k < j → mini ≤ dist p q (i + 1) (k + 1))
theorem out_start (p q : List Nat) (r : Int) : OutW p q 0 (row0 p.length) r := ⟨row0_len _, fun k hk => by rw [row0_get hk, dist_0]; push_cast; rfl, fun h => absurd rfl h⟩
theorem in_start {p q : List Nat} {i : Nat} {row : List Int} {res z d : Int} (h : OutW p q i row res) (hz : z = 2 * (i : Int)) : InW p q i 0 row z z d :=
  ⟨h.1, fun k hk => by rw [if_neg (by omega)]; exact h.2.1 k hk, by rw [dist_i0]; exact hz, by rw [if_pos rfl]; exact hz, fun k hk => absurd hk (by omega)⟩
theorem getD_set {l : List Int} {i k : Nat} {v : Int} (hi : i < l.length) : (l.set i v).getD k 0 = if k = i then v else l.getD k 0 := by
  simp only [List.getD_eq_getElem?_getD, List.getElem?_set]
  by_cases h : i = k
  · subst h; simp [hi]
  · have : ¬ k = i := fun e => h e.symm
    simp [h, this]
theorem in_turn {p q : List Nat} {i j : Nat} {row : List Int} {dis res mini res' mini' : Int} (h : InW p q i j row dis res mini) (hj : j < p.length)
    (hr : res' = min (min res (row.getD j 0) + 2) (dis + cost (q.getD i 0) (p.getD j 0))) (hm : mini' ≤ mini) (hm' : mini' ≤ res') : InW p q i (j + 1) (row.set j res') (row.getD j 0) res' mini' := by
  obtain ⟨h1, h2, h3, h4, h5⟩ := h
  have hj1 := h2 j hj
  rw [if_neg (by omega)] at hj1
  have e : res' = dist p q (i + 1) (j + 1) := by rw [hr, hj1, h3]; exact dist_turn p q i j res h4
  refine ⟨by rw [List.length_set]; exact h1, fun k hk => ?_, hj1, ?_, fun k hk => ?_⟩
  · rw [getD_set (by omega)]
    by_cases hk' : k = j
    · subst hk'; rw [if_pos rfl, if_pos (by omega)]; exact e
    · rw [if_neg hk', h2 k hk]
      by_cases h6 : k < j
      · rw [if_pos h6, if_pos (by omega)]
      · rw [if_neg h6, if_neg (by omega)]
  · rw [if_neg (by omega)]; exact e
  · by_cases hk' : k = j
    · subst hk'; rw [← e]; exact hm'
    · exact Int.le_trans hm (h5 k (by omega))
theorem out_turn {p q : List Nat} {i : Nat} {row : List Int} {dis res mini : Int} (h : InW p q i p.length row dis res mini) (hp : 0 < p.length) : OutW p q (i + 1) row res :=
  ⟨h.1, fun k hk => by rw [h.2.1 k hk, if_pos hk], fun _ => by rw [h.2.2.2.1, if_neg (by omega)]⟩
theorem says_dist {x y a b p q : List Nat} {B r : Int} (h : Trim x y a b) (hpq : p = a ∧ q = b ∨ p = b ∧ q = a) (hr : r = dist p q q.length p.length ∨ (B < dist p q q.length p.length ∧ B < r)) (hp : 0 < p.length) (hq : 0 < q.length) : LevSays x y B r := by
  refine ⟨a, b, h, fun h1 => ?_, fun _ _ => ?_⟩
  · rcases hpq with ⟨rfl, rfl⟩ | ⟨rfl, rfl⟩ <;> rcases h1 with rfl | rfl <;> simp at hp hq
  · have e : ED a b = dist p q q.length p.length := by
      rcases hpq with ⟨rfl, rfl⟩ | ⟨rfl, rfl⟩
      · exact ED_symm _ _
      · rfl
    rw [e]; omega
theorem out_end {p q : List Nat} {row : List Int} {res : Int} (h : OutW p q q.length row res) (hq : 0 < q.length) : res = dist p q q.length p.length := h.2.2 (by omega)
theorem early {p q : List Nat} {i : Nat} {row : List Int} {dis res mini B : Int} (h : InW p q i p.length row dis res mini) (hp : 0 < p.length) (hi : i < q.length) (hB : B < mini) : B < dist p q q.length p.length :=
  dist_row p q B hp (fun k hk => Int.lt_of_lt_of_le hB (h.2.2.2.2 k hk)) q.length (by omega)
theorem early0 {p q : List Nat} {B : Int} (hB : B < ((q.length : Int) - (p.length : Int)) * 2) : B < dist p q q.length p.length := by
  have := dist_lo p q q.length p.length; omega

theorem out_turn2 {p q : List Nat} {pre : List Int} {k : Int} {n : Nat} {row : List Int} {dis res mini : Int} (h : InW p q pre.length (rangeKs 0 n).length row dis res mini) (hn : n = p.length) (hp : 0 < p.length) : OutW p q (pre ++ [k]).length row res := by
  rw [rangeKs_length, hn] at h
  rw [List.length_append]
  exact out_turn h hp
theorem out_end2 {p q : List Nat} {n : Nat} {row : List Int} {res : Int} (h : OutW p q (rangeKs 0 n).length row res) (hn : n = q.length) (hq : 0 < q.length) : res = dist p q q.length p.length := by
  rw [rangeKs_length, hn] at h
  exact out_end h hq
theorem early2 {p q : List Nat} {pre : List Int} {n : Nat} {row : List Int} {dis res mini B : Int} (h : InW p q pre.length (rangeKs 0 n).length row dis res mini) (hn : n = p.length) (hp : 0 < p.length) (hi : pre.length < q.length) (hB : B < mini) : B < dist p q q.length p.length := by
  rw [rangeKs_length, hn] at h
  exact early h hp hi hB
theorem in_turn2 {p q : List Nat} {i : Nat} {ii : Int} {pre : List Int} {k : Int} {row : List Int} {dis res mini res' mini' : Int} (h : InW p q i pre.length row dis res mini) (hii : ii = (i : Int)) (hk : k = (pre.length : Int)) (hj : pre.length < p.length)
    (hr : res' = min (min res (row.getD k.toNat 0) + 2) (dis + cost (q.getD ii.toNat 0) (p.getD k.toNat 0))) (hm : mini' ≤ mini) (hm' : mini' ≤ res') : InW p q i (pre ++ [k]).length (row.set k.toNat res') (row.getD k.toNat 0) res' mini' := by
  have e : k.toNat = pre.length := by omega
  have e' : ii.toNat = i := by omega
  rw [e, e'] at hr
  rw [e, List.length_append]
  exact in_turn h hj hr hm hm'

theorem min_if (a b : Int) : (if b < a then b else a) = min a b := by
  split <;> omega
theorem in_word {p q : List Nat} {i : Nat} {ii : Int} {pre : List Int} {k : Int} {row : List Int} {dis res mini mini' : Int} (h : InW p q i pre.length row dis res mini) (hii : ii = (i : Int)) (hk : k = (pre.length : Int)) (hj : pre.length < p.length)
    (hm : mini' ≤ mini) (hm' : mini' ≤ (if dis + cost (q.getD ii.toNat 0) (p.getD k.toNat 0) < (if row.getD k.toNat 0 < res then row.getD k.toNat 0 else res) + 2 then dis + cost (q.getD ii.toNat 0) (p.getD k.toNat 0) else (if row.getD k.toNat 0 < res then row.getD k.toNat 0 else res) + 2)) :
    (row.set k.toNat (if dis + cost (q.getD ii.toNat 0) (p.getD k.toNat 0) < (if row.getD k.toNat 0 < res then row.getD k.toNat 0 else res) + 2 then dis + cost (q.getD ii.toNat 0) (p.getD k.toNat 0) else (if row.getD k.toNat 0 < res then row.getD k.toNat 0 else res) + 2)).length = p.length ∧
    InW p q i (pre ++ [k]).length (row.set k.toNat (if dis + cost (q.getD ii.toNat 0) (p.getD k.toNat 0) < (if row.getD k.toNat 0 < res then row.getD k.toNat 0 else res) + 2 then dis + cost (q.getD ii.toNat 0) (p.getD k.toNat 0) else (if row.getD k.toNat 0 < res then row.getD k.toNat 0 else res) + 2)) (row.getD k.toNat 0)
      (if dis + cost (q.getD ii.toNat 0) (p.getD k.toNat 0) < (if row.getD k.toNat 0 < res then row.getD k.toNat 0 else res) + 2 then dis + cost (q.getD ii.toNat 0) (p.getD k.toNat 0) else (if row.getD k.toNat 0 < res then row.getD k.toNat 0 else res) + 2) mini' := by
  refine ⟨by rw [List.length_set]; exact h.1, ?_⟩
  refine in_turn2 h hii hk hj ?_ hm hm'
  rw [min_if, min_if]
end
set_option maxRecDepth 100000 in
set_option maxHeartbeats 8000000 in
theorem sub_tell (w : World) (mean : ExcName → Option Value) (mg mb : Str → Option Value) (c d : Nat) (t u : Tok) : Tell w mean mg mb 3 21 True [.str (S [c]) t, .str (S [d]) u] (fun v => ∃ t, v = .int (cost c d) t) := by
  intro news dp un gd cn cs a ccd cl outer A₀ base h₀ L m s Q E B F X N T hk hpre hdp hun hret
  unfold cost at hret
  have hx := S_len [c]
  have hy := S_len [d]
  generalize S [c] = x at *
  generalize S [d] = y at *
  simp only [List.length_cons, List.length_nil] at hx hy
  have kMk := kstMark
  refine wpAny_call ?_
  k_dflt cell_enter
  k_steps
  all_goals (refine tell_ret (Q := Q) hret ⟨_, congrArg (fun i => Value.int i _) ?_⟩ (by k_asm) (by k_asm) (fun _ h => h))
  all_goals (simp only [beq_iff_eq, beq_eq_false_iff_ne, ne_eq] at *; simp only [sub, *, if_true, if_false])
/-- the law's signs -/
def Al : List Nat := [97, 65, 98, 66, 49, 95, 233, 201, 99]
def inPairs (x y : Str) : Bool := decide (Str.ofString "a" = x) && decide (Str.ofString "A" = y) || (decide (Str.ofString "b" = x) && decide (Str.ofString "B" = y) || decide (Str.ofString "é" = x) && decide (Str.ofString "É" = y))
def price (x y : Str) : Int := if (x == y) = true then 0 else if inPairs x y = true then 1 else if inPairs y x = true then 1 else 2
set_option maxRecDepth 100000 in
theorem price_is : ∀ c ∈ Al, ∀ d ∈ Al, price (S [c]) (S [d]) = cost c d := by decide +kernel
theorem can_pair {x y : Str} (h1 : PyData.strOk x = true) (h2 : PyData.strOk y = true) : (PyData.tuple [PyData.str x, PyData.str y]).canLay0 = true := by
  simp [PyData.canLayAll0, PyData.canLay0, h1, h2]
theorem eqv_pair (x y a b : Str) : PyData.eqv (PyData.tuple [PyData.str a, PyData.str b]) (PyData.tuple [PyData.str x, PyData.str y]) = (decide (a = x) && decide (b = y)) := by
  simp only [PyData.eqv, PyData.eqvAll, Bool.and_true]
  by_cases h1 : a = x <;> by_cases h2 : b = y <;> simp [h1, h2]
theorem in_pairs {prog : Program} {w : World} {A : Around} {E : Value → Shared → Prop} {s : Shared} {c x : Value} {xs : List PyData} {d : PyData} {as bs : List Addr} {Q : Value → Shared → Prop} (rc : Reads s.heap c (.list xs) as) (rx : Reads s.heap x d bs) (hxs : PyData.canLayAll0 xs = true) (hd : d.canLay0 = true)
    (hm : PyData.depthAll xs ≤ 3) (hu : A.units + 8 < cLine) (h : Q (.bool (xs.any fun y => PyData.eqv y d)) s) : wpAny (model prog w) A (compareOp .In x c) Q E s :=
  SeqAt.in_list_reads rc rx hxs hd (by omega) h
theorem ok_of (c : Nat) (h : c ∈ Al) : PyData.strOk (S [c]) = true := (by decide +kernel : ∀ c ∈ Al, PyData.strOk (S [c]) = true) c h
section
local macro_rules | `(tactic| walk_at "compareOp In ref ref") => `(tactic| (k_here; (with_reducible show wpAny _ _ (compareOp CmpOp.In (Value.ref _) (Value.ref _)) _ _ _); k_dflt (refine in_pairs (by ked_read) (by ked_read) ?q1 ?q2 ?q3 ?q4 ?_); (case q1 => (decide +kernel)); (case q2 => exact can_pair (by assumption) (by assumption));  (case q3 => (simp [PyData.depthAll, PyData.depth]; done)); (case q4 => ktr_units); (simp only [List.any_cons, List.any_nil, eqv_pair, Bool.or_false])))
set_option maxRecDepth 100000 in
set_option maxHeartbeats 8000000 in
theorem price_tell (w : World) (mean : ExcName → Option Value) (mg mb : Str → Option Value) (c d : Nat) (t u : Tok) : Tell w mean mg mb 4 35 (c ∈ Al ∧ d ∈ Al) [.str (S [c]) t, .str (S [d]) u] (fun v => ∃ t, v = .int (cost c d) t) := by
  intro news dp un gd cn cs a ccd cl outer A₀ base h₀ L m s Q E B F X N T hk hpre hdp hun hret
  obtain ⟨hc, hd⟩ := hpre
  have hx0 := ok_of c hc
  have hy0 := ok_of d hd
  rw [← price_is c hc d hd] at hret
  generalize S [c] = x at *
  generalize S [d] = y at *
  have kMk := kstMark
  refine wpAny_call ?_
  k_dflt cell_enter
  k_steps
  all_goals (refine tell_ret (Q := Q) hret ⟨_, congrArg (fun i => Value.int i _) ?_⟩ (by k_asm) (by k_asm) (by first | exact fun _ h => h | exact fun _ h => .tail _ (.tail _ (.tail _ (.tail _ (.tail _ h)))) | exact fun _ h => .tail _ (.tail _ (.tail _ (.tail _ (.tail _ (.tail _ h)))))))
  all_goals (simp only [price, inPairs, *, if_true, if_false, Bool.false_eq_true])
end
section
set_option maxRecDepth 100000
open PySem.Calls
def AnyPost (h₀ : Heap) (L : Addr) (J : (Str → Option Value) → List (Addr × Obj) → Prop) (own : List (Addr × Obj)) (s₁ : Shared) (Q : Flow → Shared → Prop) (f : Flow) (s₂ : Shared) : Prop :=
  match f with
  | .ret v => Q (.ret v) s₂
  | .brk => Q .next s₂
  | _ => ∃ h' tk m' news' nx, s₂ = { s₁ with heap := h', toks := tk } ∧ Fr h₀ L h' m' ∧ News h₀ L h' news' ∧ (∀ p ∈ nx, p ∈ news') ∧ (∀ p ∈ own, p ∈ news') ∧ OwnOff own (nx.map (·.1)) ∧ J m' nx
theorem any_end {h₀ h' : Heap} {L : Addr} {J : (Str → Option Value) → List (Addr × Obj) → Prop} {own news' : List (Addr × Obj)} {s₁ : Shared} {Q : Flow → Shared → Prop} {m' : Str → Option Value} {tk : Nat} (nx : List (Addr × Obj))
    (F : Fr h₀ L h' m') (N : News h₀ L h' news') (hn : ∀ p ∈ nx, p ∈ news') (ho : ∀ p ∈ own, p ∈ news') (hs : OwnOff own (nx.map (·.1))) (hj : J m' nx) : AnyPost h₀ L J own s₁ Q .next { s₁ with heap := h', toks := tk } :=
  ⟨h', tk, m', news', nx, rfl, F, N, hn, ho, hs, hj⟩
/-- a loop over a range by ones; what stands between the turns may be of any addresses -/
theorem range_any {prog : Program} {w : World} {A : Around} {E : Value → Shared → Prop} {s : Shared} {env : Env} {h₀ : Heap} {x : Str} {body : List Stmt} {Q : Flow → Shared → Prop} {r : Addr} {a₀ b₀ : Int} {t₀ u₀ v₀ : Tok} {n : Nat} {m₀ : Str → Option Value} {news : List (Addr × Obj)}
    (J : Nat → (Str → Option Value) → List (Addr × Obj) → Prop)
    (hh : A.handled = none) (hr : IsRange s.heap r a₀ b₀ 1 t₀ u₀ v₀) (hsmall : Builtin.Range.small a₀ b₀ 1 = true) (hn : Builtin.Range.rangeSize a₀ b₀ 1 = (n : Int)) (F : Fr h₀ env.locals s.heap m₀) (N : News h₀ env.locals s.heap news) (hj : J 0 m₀ news)
    (turn : ∀ i t m₁ news₁ h tk own, i < n → OwnOff own (news₁.map (·.1)) → J i m₁ news₁ → Fr h₀ env.locals h (fun y => if y = x then some (.int (a₀ + (i : Int)) t) else m₁ y) → News h₀ env.locals h (news₁ ++ own) →
      wpAny (model prog w) A (execs body env) (AnyPost h₀ env.locals (J (i + 1)) own { s with heap := h, toks := tk } Q) E { s with heap := h, toks := tk })
    (done : ∀ m₁ news₁ h tk, J n m₁ news₁ → Fr h₀ env.locals h m₁ → News h₀ env.locals h news₁ → Q .next { s with heap := h, toks := tk }) :
    wpAny (model prog w) A (pyIter (.ref r)) (fun it s₂ => LoopAtV prog w A h₀ env x body Q E it s₂) E s := by
  refine wpAny_pyIter_range hr hsmall ?_
  have W : Walks prog w A s.heap.objs.size [s.heap.objs.size] [s.heap.objs.size] n (fun i v => i < n ∧ ∃ t, v = .int (a₀ + i * 1) t)
      (fun i h => IsRangeIter h s.heap.objs.size (a₀ + (i : Nat) * 1) ((n : Int) - (i : Nat)) 1) := (Walks.range hh _ a₀ 1 n).bound
  refine ⟨_, _, _, n, _, _, m₀, news, J, rfl, W, ?_, ?_, ?_, (by show IsRangeIter _ _ _ _ _; rw [hn]; simpa using Heap.get?_push_size _ rfl), F.push _, (fun p hp => ⟨Heap.get?_push_of_some _ (N p hp).1, (N p hp).2⟩), hj, ?_, ?_⟩
  · intro hm
    exact absurd F.ns.lt ((List.mem_singleton.mp hm) ▸ Nat.lt_irrefl _)
  · intro b hb
    rw [List.mem_singleton.mp hb]
    exact next_is_new F
  · intro p hp hI
    exact absurd (Heap.lt_size (N p hp).1) ((List.mem_singleton.mp hI) ▸ Nat.lt_irrefl _)
  · rintro i v m₁ news₁ s₁ own ⟨hh', tk', rfl⟩ hin ⟨_, t, rfl⟩ hJ hoff hown _ hall hst F₁ N₁
    have hin' : (s.heap.objs.size, _) ∈ own := hall s.heap.objs.size (List.mem_singleton.mpr rfl) (next_is_new F) _ hst
    have hsep : OwnOff own (news₁.map (·.1)) := by
      intro p hp b hb e
      obtain ⟨q, hq, rfl⟩ := List.mem_map.mp hb
      exact hoff q hq (e ▸ hown p hp)
    have N₂ : News h₀ env.locals hh' (news₁ ++ own) := fun p hp => N₁ p ((List.mem_append.mp hp).elim (fun h => List.mem_append.mpr (.inr h)) fun h => List.mem_append.mpr (.inl h))
    have e1 : a₀ + (i : Int) * 1 = a₀ + (i : Int) := by omega
    rw [e1] at F₁
    refine wpAny_mono (turn i t m₁ news₁ hh' tk' own hin hsep hJ F₁ N₂) (fun f s₂ p => ?_) fun _ _ e => e
    have fin : (∃ h' tk m' news' nx, s₂ = { s with heap := h', toks := tk } ∧ Fr h₀ env.locals h' m' ∧ News h₀ env.locals h' news' ∧ (∀ p ∈ nx, p ∈ news') ∧ (∀ p ∈ own, p ∈ news') ∧ OwnOff own (nx.map (·.1)) ∧ J (i + 1) m' nx) →
        LoopStepU h₀ env.locals [s.heap.objs.size] own (J (i + 1)) { s with heap := hh', toks := tk' } .next s₂ := by
      rintro ⟨h', tk, m', news', nx, rfl, F', N', hn, ho, ha, hm⟩
      refine ⟨rfl, h', tk, m', nx, rfl, F', fun p hp => N' p ((List.mem_append.mp hp).elim (ho p) (hn p)), fun p hp hq => ?_, hm⟩
      exact ha _ hin' p.1 (List.mem_map.mpr ⟨p, hp, rfl⟩) (List.mem_singleton.mp hq).symm
    cases f with
    | ret v => exact .ret p
    | brk => exact .brk p
    | next => exact .next (fin p)
    | cont => exact .cont (fin p)
  · rintro h' tk m' news' F' N' _ hJ
    exact done m' news' h' tk hJ F' N'
theorem fr_know {h₀ h : Heap} {L : Addr} {m : Str → Option Value} {a : Str} {v : Value} (F : Fr h₀ L h m) (e : m a = some v) : Fr h₀ L h (fun z => if z = a then some v else m z) :=
  fr_of F fun z => by
    by_cases hz : z = a
    · rw [if_pos hz, hz, e]
    · rw [if_neg hz]
/-- a row of the law's table -/
def IsRow (x y : List Nat) (i : Nat) (row : List Int) : Prop := row.length = y.length + 1 ∧ ∀ k, k ≤ y.length → row.getD k 0 = dist y x i k
def PartRow (x y : List Nat) (i j : Nat) (row : List Int) : Prop := row.length = j + 1 ∧ ∀ k, k ≤ j → row.getD k 0 = dist y x (i + 1) k
theorem row_start (x y : List Nat) (n : Nat) (hn : n = y.length + 1) : IsRow x y 0 (List.map (fun k' => 2 * k') (rangeKs 0 n)) := by
  refine ⟨by rw [List.length_map, rangeKs_length, hn], fun k hk => ?_⟩
  rw [dist_0, List.getD_eq_getElem?_getD, List.getElem?_map]
  simp [rangeKs, hn, show k < y.length + 1 by omega]
theorem part_start (x y : List Nat) (i : Nat) (a : Int) (h : a = 2 * ((i : Int) + 1)) : PartRow x y i 0 [a] := by
  refine ⟨rfl, fun k hk => ?_⟩
  have : k = 0 := by omega
  subst this
  rw [dist_s0, h]; rfl
theorem part_end {x y : List Nat} {i n : Nat} {row : List Int} (h : PartRow x y i n row) (hn : n = y.length) : IsRow x y (i + 1) row := by
  subst hn; exact h
theorem part_turn {x y : List Nat} {i j : Nat} {above row : List Int} {v : Int} (ha : IsRow x y i above) (h : PartRow x y i j row) (hj : j < y.length)
    (hv : v = min (min (above.getD j 0 + cost (x.getD i 0) (y.getD j 0)) (above.getD (j + 1) 0 + 2)) (row.getD j 0 + 2)) : PartRow x y i (j + 1) (row ++ [v]) := by
  refine ⟨by rw [List.length_append, h.1]; rfl, fun k hk => ?_⟩
  by_cases e : k = j + 1
  · subst e
    rw [List.getD_eq_getElem?_getD, List.getElem?_append_right (by rw [h.1]; omega), h.1]
    simp only [Nat.sub_self, List.getElem?_cons_zero, Option.getD_some]
    rw [hv, ha.2 j (by omega), ha.2 (j + 1) (by omega), h.2 j (by omega), dist_ss]
    omega
  · rw [List.getD_eq_getElem?_getD, List.getElem?_append_left (by rw [h.1]; omega), ← List.getD_eq_getElem?_getD]
    exact h.2 k (by omega)
theorem al_get {x : List Nat} {k : Nat} (h : ∀ c ∈ x, c ∈ Al) (hk : k < x.length) : x.getD k 0 ∈ Al := by
  rw [List.getD_eq_getElem?_getD, List.getElem?_eq_getElem hk]
  exact h _ (List.getElem_mem hk)
theorem min3_N {prog : Program} {w : World} {A : Around} {E : Value → Shared → Prop} {s : Shared} {a b c : Int} {t u x : Tok} {Q : Value → Shared → Prop} {h₀ : Heap} {L : Addr} {m : Str → Option Value} {news : List (Addr × Obj)} (hh : A.handled = none) (F : Fr h₀ L s.heap m) (N : News h₀ L s.heap news)
    (h : ∀ t' h' tk, Fr h₀ L h' m → News h₀ L h' news → Q (.int (min (min a b) c) t') { s with heap := h', toks := tk }) : wpAny (model prog w) A (call (.builtin "min") [.int a t, .int b u, .int c x]) Q E s := by
  refine min_three_ints hh fun h' tk hk => ?_
  have key : ∀ (v : Int) (t' : Tok), v = min (min a b) c → Q (.int v t') { s with heap := h', toks := tk } := fun v t' e => by
    subst e
    exact h t' h' tk (F.keeps hk) fun p hp => ⟨hk _ _ (N p hp).1, (N p hp).2⟩
  split
  · split
    · exact key _ _ (by omega)
    · exact key _ _ (by omega)
  · split
    · exact key _ _ (by omega)
    · exact key _ _ (by omega)
theorem own_apart {own news : List (Addr × Obj)} {D R : Addr} {O O' : Obj} (h : OwnOff own (((D, O) :: news).map (·.1))) (l : ∀ p ∈ (D, O) :: news ++ own, p.1 < R) : OwnOff own (((R, O') :: news).map (·.1)) := by
  intro p hp b hb
  rw [List.map_cons] at hb
  rcases List.mem_cons.mp hb with rfl | hb
  · exact Nat.ne_of_lt (l p (List.mem_append.mpr (.inr hp)))
  · exact h p hp b (by rw [List.map_cons]; exact .tail _ hb)
theorem any_end2 {h₀ h' : Heap} {L R D : Addr} {O O' : Obj} {J : (Str → Option Value) → List (Addr × Obj) → Prop} {own news : List (Addr × Obj)} {s₁ : Shared} {Q : Flow → Shared → Prop} {m' : Str → Option Value} {tk : Nat}
    (F : Fr h₀ L h' m') (N : News h₀ L h' ((R, O) :: (D, O') :: (news ++ own))) (hs : OwnOff own (((R, O) :: news).map (·.1))) (hj : J m' ((R, O) :: news)) : AnyPost h₀ L J own s₁ Q .next { s₁ with heap := h', toks := tk } :=
  any_end ((R, O) :: news) F N (fun p hp => (List.mem_cons.mp hp).elim (fun e => e ▸ .head _) fun hp => .tail _ (.tail _ (List.mem_append.mpr (.inl hp))))
    (fun p hp => .tail _ (.tail _ (List.mem_append.mpr (.inr hp)))) hs hj
theorem min2_N {prog : Program} {w : World} {A : Around} {E : Value → Shared → Prop} {s : Shared} {a b : Int} {t u : Tok} {Q : Value → Shared → Prop} {h₀ : Heap} {L : Addr} {m : Str → Option Value} {news : List (Addr × Obj)} (hh : A.handled = none) (F : Fr h₀ L s.heap m) (N : News h₀ L s.heap news)
    (h : ∀ t' h' tk, Fr h₀ L h' m → News h₀ L h' news → Q (.int (min a b) t') { s with heap := h', toks := tk }) : wpAny (model prog w) A (call (.builtin "min") [.int a t, .int b u]) Q E s := by
  refine min_two_N hh F N fun h' tk F' N' => ?_
  rw [min_if]
  exact h _ h' tk F' N'
theorem max2_N {prog : Program} {w : World} {A : Around} {E : Value → Shared → Prop} {s : Shared} {a b : Int} {t u : Tok} {Q : Value → Shared → Prop} {h₀ : Heap} {L : Addr} {m : Str → Option Value} {news : List (Addr × Obj)} (hh : A.handled = none) (F : Fr h₀ L s.heap m) (N : News h₀ L s.heap news)
    (h : ∀ t' h' tk, Fr h₀ L h' m → News h₀ L h' news → Q (.int (max a b) t') { s with heap := h', toks := tk }) : wpAny (model prog w) A (call (.builtin "max") [.int a t, .int b u]) Q E s := by
  refine max_two_N hh F N fun h' tk F' N' => ?_
  rw [show (if b > a then b else a) = max a b by split <;> omega]
  exact h _ h' tk F' N'
theorem foldl_pick {C : Int → Prop} [DecidablePred C] (ks : List Int) : ∀ acc, ks.foldl (fun l k => if C k then l ++ [k] else l) acc = acc ++ ks.filter (fun k => decide (C k)) := by
  induction ks with
  | nil => intro acc; simp
  | cons k r ih =>
    intro acc
    rw [List.foldl_cons, ih]
    by_cases h : C k
    · simp [h]
    · simp [h]
theorem mem_pick {C : Int → Prop} [DecidablePred C] {n : Nat} {M : Int} : M ∈ (rangeKs 0 n).foldl (fun l k => if C k then l ++ [k] else l) [] ↔ (0 ≤ M ∧ M < (n : Int)) ∧ C M := by
  rw [foldl_pick, List.nil_append, List.mem_filter]
  constructor
  · intro h
    have := mem_rangeKs h.1
    exact ⟨by omega, of_decide_eq_true h.2⟩
  · intro h
    refine ⟨?_, decide_eq_true h.2⟩
    unfold rangeKs
    exact List.mem_map.mpr ⟨M.toNat, List.mem_range.mpr (by omega), by omega⟩
theorem pre_max {x y : List Nat} {n : Nat} {M : Int} (hn : n = min x.length y.length + 1) (hM : M ∈ (rangeKs 0 n).foldl (fun l k => if x.take k.toNat = y.take k.toNat then l ++ [k] else l) [])
    (hm : ∀ a, a ∈ (rangeKs 0 n).foldl (fun l k => if x.take k.toNat = y.take k.toNat then l ++ [k] else l) [] → a ≤ M) : 0 ≤ M ∧ M ≤ x.length ∧ M ≤ y.length ∧ IsPre x y M.toNat := by
  have h := mem_pick.mp hM
  refine ⟨h.1.1, by omega, by omega, pre_of_max (by omega) (by omega) h.2 fun i hi hj e => ?_⟩
  have := hm (i : Int) (mem_pick.mpr ⟨by omega, by simpa using e⟩)
  omega
theorem post_max {x y : List Nat} {n : Nat} {M : Int} (hn : n = min x.length y.length + 1) (hM : M ∈ (rangeKs 0 n).foldl (fun l k => if x.drop ((x.length : Int) - k).toNat = y.drop ((y.length : Int) - k).toNat then l ++ [k] else l) [])
    (hm : ∀ a, a ∈ (rangeKs 0 n).foldl (fun l k => if x.drop ((x.length : Int) - k).toNat = y.drop ((y.length : Int) - k).toNat then l ++ [k] else l) [] → a ≤ M) : 0 ≤ M ∧ M ≤ x.length ∧ M ≤ y.length ∧ IsPost x y M.toNat := by
  have h := mem_pick.mp hM
  have e : ∀ (l : List Nat) (k : Int), 0 ≤ k → ((l.length : Int) - k).toNat = l.length - k.toNat := fun l k hk => by omega
  refine ⟨h.1.1, by omega, by omega, post_of_max (by omega) (by omega) ?_ fun i hi hj e' => ?_⟩
  · have h2 := h.2
    rw [e x M h.1.1, e y M h.1.1] at h2
    exact h2
  · have := hm (i : Int) (mem_pick.mpr ⟨by omega, by rw [e x i (by omega), e y i (by omega)]; simpa using e'⟩)
    omega
theorem pick_pos {C : Int → Prop} [DecidablePred C] {n : Nat} (hn : 0 < n) (h : C 0) : 0 < ((rangeKs 0 n).foldl (fun l k => if C k then l ++ [k] else l) []).length :=
  List.length_pos_of_mem (mem_pick.mpr ⟨⟨Int.le_refl _, by omega⟩, h⟩)
theorem pick_grows {C : Int → Prop} [DecidablePred C] : KPfGrows (fun l k => if C k then l ++ [k] else l) := by
  intro l k
  by_cases h : C k
  · simp [h]
  · simp [h]
end
section
set_option maxRecDepth 100000
open PySem.Calls
/-- a list of one-signed texts -/
def SignsAre (vs : List Value) (cs : List Nat) : Prop := CarriedAll vs (cs.map fun c => PyData.str (S [c]))
theorem carried_take : ∀ {vs : List Value} {ds : List PyData} (n : Nat), CarriedAll vs ds → CarriedAll (vs.take n) (ds.take n)
  | _, _, 0, _ => by simp only [List.take_zero]; exact .nil
  | _, _, n + 1, .nil => by simp only [List.take_nil]; exact .nil
  | _, _, n + 1, .cons h r => by simp only [List.take_succ_cons]; exact .cons h (carried_take n r)
theorem carried_drop : ∀ {vs : List Value} {ds : List PyData} (n : Nat), CarriedAll vs ds → CarriedAll (vs.drop n) (ds.drop n)
  | _, _, 0, h => h
  | _, _, n + 1, .nil => by simp only [List.drop_nil]; exact .nil
  | _, _, n + 1, .cons h r => by simp only [List.drop_succ_cons]; exact carried_drop n r
theorem SignsAre.length {vs : List Value} {cs : List Nat} (h : SignsAre vs cs) : vs.length = cs.length := by
  have := CarriedAll.length_eq h
  rwa [List.length_map] at this
theorem SignsAre.take {vs : List Value} {cs : List Nat} (h : SignsAre vs cs) (n : Nat) : SignsAre (vs.take n) (cs.take n) := by
  have := carried_take n h
  rwa [← List.map_take] at this
theorem SignsAre.drop {vs : List Value} {cs : List Nat} (h : SignsAre vs cs) (n : Nat) : SignsAre (vs.drop n) (cs.drop n) := by
  have := carried_drop n h
  rwa [← List.map_drop] at this
theorem signs_upto {vs : List Value} {cs : List Nat} {y : Int} (hi' : SignsAre vs cs) (h : 0 ≤ y) : SignsAre (slicePick vs.toArray none (some y) none).toList (cs.take y.toNat) := by
  have e : sliceBounds none (some y) none vs.toArray.size = (((0 : Nat) : Int), ((min y.toNat vs.toArray.size : Nat) : Int), 1) := by
    simp only [sliceBounds, Option.getD_none, show (1 : Int) > 0 by decide, if_true, if_neg (show ¬ (y < 0) by omega)]
    congr 1
    congr 1
    omega
  rw [kmk_pick_nat _ e]
  show SignsAre ((vs.drop 0).take (min y.toNat vs.toArray.size - 0)) _
  rw [List.drop_zero, Nat.sub_zero, List.size_toArray, kmk_take_min]
  exact hi'.take _
theorem signs_from {vs : List Value} {cs : List Nat} {x : Int} (hi' : SignsAre vs cs) (h : 0 ≤ x) : SignsAre (slicePick vs.toArray (some x) none none).toList (cs.drop x.toNat) := by
  have e : sliceBounds (some x) none none vs.toArray.size = (((min x.toNat vs.toArray.size : Nat) : Int), ((vs.toArray.size : Nat) : Int), 1) := by
    simp only [sliceBounds, Option.getD_none, show (1 : Int) > 0 by decide, if_true, if_neg (show ¬ (x < 0) by omega)]
    congr 1
    omega
  rw [kmk_pick_nat _ e]
  show SignsAre ((vs.drop (min x.toNat vs.toArray.size)).take (vs.toArray.size - min x.toNat vs.toArray.size)) _
  rw [List.size_toArray, kmk_drop_min, List.take_of_length_le (by rw [List.length_drop]; omega)]
  exact hi'.drop _
section
variable {prog : Program} {w : World} {A : Around} {E : Value → Shared → Prop} {s : Shared} {h₀ : Heap} {L l D : Addr} {m : Str → Option Value} {news : List (Addr × Obj)} {value slice : PySem.Expr} {vs : List Value} {cs ds : List Nat} {vl vu : Value} {lo hi : Option Int} {t u : Tok} {Q : Value → Shared → Prop}
theorem slice_signs (F : Fr h₀ L s.heap m) (N : News h₀ L s.heap news) (hl : s.heap.IsList l vs.toArray) (pl : IsPart vl lo) (pu : IsPart vu hi) (hi' : SignsAre vs cs) (hm : SignsAre (slicePick vs.toArray lo hi none).toList ds)
    (h : ∀ D ws h', Fr h₀ L h' m → News h₀ L h' ((D, listOf (List.toArray ws) 0) :: news) → (∀ p ∈ news, p.1 < D) → SignsAre ws ds → ds.length ≤ cs.length → Q (.ref D) { s with heap := h' })
    (hs : subscripted slice false (.ref l) (.ref s.heap.objs.size) = operate [.ref s.heap.objs.size, .ref l] (getItem (.ref l) (.ref s.heap.objs.size))) (ht : ∀ r, letTemporaryGo value (.ref l) r = pure ()) (hz : cs.length ≤ 1000) :
    wpAny (model prog w) A (subscriptTail value slice (.ref l) (.ref s.heap.objs.size)) Q E { s with heap := s.heap.push { cls := .type "slice", data := .fields #[vl, vu, .none] } } := by
  have hle : ds.length ≤ cs.length := by
    have q := slicePick_size_le vs.toArray lo hi none
    rw [← hm.length, ← hi'.length, Array.length_toList]
    simpa using q
  refine kmk_slice F N hl pl pu (fun D h' F' N' l1 => h D (slicePick vs.toArray lo hi none).toList h' F' ?_ l1 hm hle) hs ht (by rw [List.size_toArray, hi'.length, sizeLine_eq]; omega)
  rw [Array.toArray_toList]
  exact N'
theorem join_S (cs : List Nat) : PySem.Txt.join (PySem.Str.ofString "") (cs.map fun c => S [c]) = S cs := by
  show Builtin.Str.glued (PySem.Str.ofString "") _ = _
  rw [StrLaws.glued_eq_join]
  exact PyProof.Rows.join_ones cs
theorem join_signs (hl : s.heap.IsList D vs.toArray) (hc : SignsAre vs cs) (hz : cs.length ≤ 1000) (h : ∀ t' k, Q (.str (S cs) t') { s with toks := k }) :
    wpAny (model prog w) A (call (.builtin "str.join") [.str (PySem.Str.ofString "") t, .ref D]) Q E s :=
  KT.join_1 (l := cs) (g := fun c => S [c]) hl hc (fun a _ => S_len [a]) (by omega) fun t' k _ => by rw [join_S]; exact h t' k
theorem S_to_big {l : List Nat} {k : Int} (hk : (l.length : Int) ≤ k) : Txt.slice (S l) none (some k) = S l := by
  unfold Txt.slice
  rw [if_pos]
  unfold Builtin.Str.strSliceIndices sliceRange
  simp [S_len]
  have h1 : ¬ k < 0 := by omega
  simp only [if_neg h1]
  have h2 : max 0 (min k (l.length : Int)) = l.length := by omega
  rw [h2]
  have : (l.length : Int) > 0 ∨ l.length = 0 := by omega
  rcases this with h | h
  · rw [if_pos (by omega)]; omega
  · rw [h]; simp
theorem sl_big {j : Int} {uj : Tok} {l : List Nat} {news : List (Addr × Obj)} (hF : Fr h₀ L s.heap m) (hN : News h₀ L s.heap news) (hz : l.length ≤ 1000) (h1 : (l.length : Int) ≤ j) (h : ∀ h' t' k, Fr h₀ L h' m → News h₀ L h' news → Q (.str (S l) t') { s with heap := h', toks := k })
    (hs : subscripted slice false (.str (S l) t) (.ref s.heap.objs.size) = operate [.ref s.heap.objs.size, .str (S l) t] (getItem (.str (S l) t) (.ref s.heap.objs.size)) := by with_unfolding_all rfl)
    (ht : ∀ r, letTemporaryGo value (.str (S l) t) r = pure () := by intro _; with_unfolding_all rfl) :
    wpAny (model prog w) A (subscriptTail value slice (.str (S l) t) (.ref s.heap.objs.size)) Q E { s with heap := s.heap.push { cls := .type "slice", data := .fields #[.none, .int j uj, .none] } } :=
  slice_strN_ns (s := s) hF hN (fun h' t' k a b => by rw [S_to_big h1]; exact h h' t' k a b) hs ht (sz_of hz)
theorem S_app (l r : List Nat) : S l ++ S r = S (l ++ r) := by
  refine PySem.Str.ext' ?_
  rw [PySem.Str.cps_append]
  simp [S]
theorem S_nil : PySem.Str.ofString "" = S [] := by decide +kernel
theorem add_S {l r : List Nat} (hz : l.length + r.length ≤ 1000) (h : ∀ t' k, Q (.str (S (l ++ r)) t') { s with toks := k }) : wpAny (model prog w) A (binaryOp .Add (.str (S l) t) (.str (S r) u)) Q E s :=
  KOpn.add (by rw [S_len, S_len]; omega) fun t' k _ => by rw [S_app]; exact h t' k
theorem add_nil {r : List Nat} (hz : r.length ≤ 1000) (h : ∀ t' k, Q (.str (S r) t') { s with toks := k }) : wpAny (model prog w) A (binaryOp .Add (.str (PySem.Str.ofString "") t) (.str (S r) u)) Q E s := by
  rw [S_nil]
  exact add_S (by simpa using hz) fun t' k => by simpa using h t' k
theorem eq_nil {l : List Nat} (h : Q (.bool (decide (l.length = 0))) s) : wpAny (model prog w) A (compareOp .Eq (.str (S l) t) (.str (PySem.Str.ofString "") u)) Q E s := by
  rw [S_nil]
  refine eq_S ?_
  have e : decide (l = []) = decide (l.length = 0) := by cases l <;> simp
  rw [e]; exact h
theorem half_N {n : Nat} (hz : n ≤ 1000) (h : ∀ t' k, Q (.int ((n / 2 : Nat) : Int) t') { s with toks := k }) : wpAny (model prog w) A (binaryOp .FloorDiv (.int (n : Int) t) (.int 2 u)) Q E s := by
  refine floordiv_int (by decide) ?_ (.inl (PyProof.noPylong_small (by omega)))
  have e : (n : Int).fdiv 2 = ((n / 2 : Nat) : Int) := by
    rw [Int.fdiv_eq_ediv_of_nonneg _ (by decide)]; rfl
  rw [e]; exact h _ _
theorem len_signs {l : Addr} {n : Nat} (hl : s.heap.IsList l vs.toArray) (hc : SignsAre vs cs) (e : cs.length = n) (hz : n ≤ 1000) (h : ∀ t' k, Q (.int (n : Int) t') { s with toks := k }) : wpAny (model prog w) A (call (.builtin "len") [.ref l]) Q E s := by
  have e2 : vs.toArray.size = n := by rw [List.size_toArray, hc.length, e]
  exact len_list hl (by rw [e2]; omega) (by rw [e2]; exact h _ _)
end
/-- the sign that a number stands for -/
def sgn (k : Int) : Nat := Al.getD (k.fmod 9).toNat 0
theorem Al_str : PySem.Str.ofString "aAbB1_éÉc" = S Al := by decide +kernel
theorem item_sgn (k : Int) : S [sgn k] = Txt.item (PySem.Str.ofString "aAbB1_éÉc") (k.fmod 9) := by
  have h0 := Int.fmod_nonneg_of_pos k (show (0 : Int) < 9 by decide)
  have h1 := Int.fmod_lt_of_pos k (show (0 : Int) < 9 by decide)
  rw [Al_str, S_item h0 (by show k.fmod 9 < ((9 : Nat) : Int); omega)]
  rfl
theorem sgn_mem (k : Int) : sgn k ∈ Al := by
  have h0 := Int.fmod_nonneg_of_pos k (show (0 : Int) < 9 by decide)
  have h1 := Int.fmod_lt_of_pos k (show (0 : Int) < 9 by decide)
  unfold sgn
  exact al_get (fun c h => h) (by show (k.fmod 9).toNat < 9; omega)
theorem signs_of {ys : List Value} {ns : List Int} (h : CarriedAll ys (ns.map fun k => PyData.str (S [sgn k]))) : SignsAre ys (ns.map sgn) := by
  unfold SignsAre
  rw [List.map_map]
  exact h
theorem signs_mem {ns : List Int} : ∀ c ∈ ns.map sgn, c ∈ Al := fun c hc => by
  obtain ⟨k, _, rfl⟩ := List.mem_map.mp hc
  exact sgn_mem k
theorem says_at {x y p q : List Nat} {b r : Int} (h : LevSays x y b r) (hT : Trim x y p q) :
    (p.length = 0 ∨ q.length = 0 → r = 2 * ((p.length : Int) + (q.length : Int))) ∧ (0 < p.length → 0 < q.length → (ED p q ≤ b → r = ED p q) ∧ (b < ED p q → b < r)) := by
  obtain ⟨p', q', hT', h1, h2⟩ := h
  obtain ⟨rfl, rfl⟩ := trim_uniq hT hT'
  refine ⟨fun e => h1 ?_, fun a b => h2 ?_ ?_⟩
  · exact e.imp List.eq_nil_of_length_eq_zero List.eq_nil_of_length_eq_zero
  · intro e; rw [e] at a; simp at a
  · intro e; rw [e] at b; simp at b
theorem says_back {x y p q : List Nat} {b r : Int} (h : LevSays y x b r) (hT : Trim x y p q) :
    (p.length = 0 ∨ q.length = 0 → r = 2 * ((p.length : Int) + (q.length : Int))) ∧ (0 < p.length → 0 < q.length → (ED p q ≤ b → r = ED p q) ∧ (b < ED p q → b < r)) := by
  have h' := says_at h (trim_symm hT)
  rw [ED_symm q p] at h'
  refine ⟨fun e => ?_, fun a b => h'.2 b a⟩
  rw [h'.1 e.symm]; omega
theorem says_same {x : List Nat} {b r : Int} (h : LevSays x x b r) : r = 0 := by
  have := (says_at h (trim_self x)).1 (.inl rfl)
  simpa using this
end
local macro_rules | `(tactic| tb_start) => `(tactic| omega)
local macro_rules | `(tactic| walk_at "subscriptTail Name Slice str ref") => `(tactic| (k_here; (with_reducible show wpAny _ _ (subscriptTail _ _ (Value.str (S _) _) (Value.ref _)) _ _ _); (with_reducible rename Fr _ _ _ _ => F'); (with_reducible rename News _ _ _ _ => N'); first
  | ((with_reducible show wpAny _ _ (subscriptTail _ (Expr.Slice (some _) none none _) _ _) _ _ _); refine sl_from (s := ⟨_, _, _, _, _⟩) F' N' (by tb_start) (by tb_start) (by tb_start) ?_)
  | ((with_reducible show wpAny _ _ (subscriptTail _ (Expr.Slice none (some _) none _) _ _) _ _ _); first
    | refine sl_all (s := ⟨_, _, _, _, _⟩) F' N' (by tb_start) ?_
    | refine sl_to (s := ⟨_, _, _, _, _⟩) F' N' (by tb_start) (by tb_start) (by tb_start) ?_
    | refine sl_to_neg (s := ⟨_, _, _, _, _⟩) F' N' (by tb_start) (by tb_start) (by tb_start) ?_); intro _ _ _ _ _))
local macro_rules | `(tactic| walk_at "subscriptTail Name Name str int") => `(tactic| (k_here; (with_reducible show wpAny _ _ (subscriptTail _ _ (Value.str (S _) _) (Value.int _ _)) _ _ _); refine it_pos (by tb_start) (by tb_start) (by tb_start) ?_))
local macro_rules | `(tactic| walk_at "subscriptTail Name BinOp str int") => `(tactic| (k_here; (with_reducible show wpAny _ _ (subscriptTail _ _ (Value.str (S _) _) (Value.int _ _)) _ _ _); refine it_neg (by tb_start) (by tb_start) (by tb_start) ?_))
local macro_rules | `(tactic| walk_at "call builtin:len") => `(tactic| (k_here; (with_reducible show wpAny _ _ (call (Value.builtin "len") [Value.str (S _) _]) _ _ _); refine len_S (by first | exact List.length_drop | exact List.length_take | exact rfl) (by tb_start) ?_))
local macro_rules | `(tactic| walk_at "compareOp Eq str str") => `(tactic| (k_here; (with_reducible show wpAny _ _ (compareOp CmpOp.Eq (Value.str (S _) _) (Value.str (S _) _)) _ _ _); refine eq_S ?_))
local macro_rules | `(tactic| walk_at "truthy str") => `(tactic| (k_here; (with_reducible show wpAny _ _ (PySem.truthy (Value.str (S _) _)) _ _ _); refine truthy_S (by first | exact List.length_drop | exact List.length_take | exact rfl) (by tb_start) ?_; intro _))
local macro_rules | `(tactic| walk_at "exec While BoolOp") => `(tactic| refine stop_of ?_)
local macro_rules | `(tactic| walk_at "eval Subscript Name Slice") => `(tactic| (k_here; (with_reducible show wpAny _ _ (eval (Expr.Subscript _ (Expr.Slice none (some (Expr.BoolOp _ _ _)) none _) _) _) _ _ _); (fail_if_success (with_reducible show wpAny _ _ _ (CutPost _ _ _ _ _ _ _) _ _)); (with_reducible rename Fr _ _ _ _ => F'); (with_reducible rename News _ _ _ _ => N'); (with_unfolding_all refine' join_cut (s := ⟨_, _, _, _, _⟩) F' N' ?ca ?ci ?_ (fun _ _ _ _ _ => ?_); (case ca => exact rfl); (case ci => exact rfl)); rotate_left; (try dsimp only); rotate_right))
local macro_rules | `(tactic| walk_at "CutPost") => `(tactic| first | (refine cut_post2 ?_ ?_ <;> assumption) | (refine cut_post1 ?_ ?_ ?_ <;> first | assumption | tb_start))
local macro_rules | `(tactic| tb_rel) => `(tactic| repeat' (first | (k_unfold; (try dsimp only)) | walk1 | (dsimp only; walk1) | fail "no step"))
local macro_rules | `(tactic| walk_at "exec If Compare") => `(tactic| ((with_reducible show wpAny _ _ (exec (Stmt.If (Expr.Compare (Expr.Call _ _ _ _) [CmpOp.Lt] _ _) _ _ _) _) _ _ _); (fail_if_success (with_reducible show wpAny _ _ _ (SwapPost _ _ _ _ _ _ _) _ _)); refine stop_of ?_))
local macro_rules | `(tactic| walk_at "call type:list") => `(tactic| (k_here; (with_reducible show wpAny _ _ (call (Value.type _) [Value.ref _]) _ _ _); (rename IsRange _ _ _ _ _ _ _ _ => rgX); (with_unfolding_all refine' list_r2 ?k0 ?k1 ?k2 ?k3 ?k4 ?_; (case k0 => rfl); (case k1 => k_asm); (case k2 => k_asm); (case k3 => exact rgX); (case k4 => omega)); intro D' vs' c' h' tk' F' N' l1 hI'; (try dsimp only)))
local macro_rules | `(tactic| walk_at "call ref") => `(tactic| (k_here; (with_reducible show wpAny _ _ (call (Value.ref 21) _) _ _ _); k_dflt (refine' sub_tell _ _ _ _ _ _ _ _ _ _ _ _ _ _ _ _ _ _ _ _ _ _ _ _ _ _ ?k1 ?k2 ?k3 ?k4 ?k5 ?kK trivial ?kd ?ku ?_; (case k1 => k_asm); (case k2 => k_asm); (case k3 => k_asm); (case k4 => k_asm); (case k5 => k_asm); (case kK => first | exact rfl | assumption); (case kd => ktr_room); (case ku => ktr_units)); intro _ _ _ hv' _ _; (obtain ⟨_, hv''⟩ := hv'); (subst hv''); (try dsimp only); (try k_fold)))
local macro_rules | `(tactic| walk_at "pyIter ref") => `(tactic| ((with_reducible show wpAny _ _ (pyIter (Value.ref _)) (fun it s₂ => LoopAtV _ _ _ _ _ _ _ _ _ it s₂) _ _); refine stop_of ?_))
local macro_rules | `(tactic| walk_at "call ref") => `(tactic| (k_here; (with_reducible show wpAny _ _ (call (Value.ref 35) _) _ _ _); k_dflt (refine' price_tell _ _ _ _ _ _ _ _ _ _ _ _ _ _ _ _ _ _ _ _ _ _ _ _ _ _ ?k1 ?k2 ?k3 ?k4 ?k5 ?kK ?kP ?kd ?ku ?_; (case k1 => k_asm); (case k2 => k_asm); (case k3 => k_asm); (case k4 => k_asm); (case k5 => k_asm); (case kK => first | exact rfl | assumption); (case kP => exact ⟨al_get (by assumption) (by omega), al_get (by assumption) (by omega)⟩); (case kd => ktr_room); (case ku => ktr_units)); intro _ _ _ hv' _ _; (obtain ⟨_, hv''⟩ := hv'); (subst hv''); (try dsimp only); (try k_fold)))
local macro_rules | `(tactic| walk_at "call builtin:min") => `(tactic| (k_here; (with_reducible show wpAny _ _ (call (Value.builtin "min") [Value.int _ _, Value.int _ _, Value.int _ _]) _ _ _); k_dflt (refine' min3_N ?k0 ?k1 ?k2 ?_; (case k0 => rfl); (case k1 => k_asm); (case k2 => k_asm)); intro _ _ _ _ _; (try dsimp only)))

theorem step_pre {x y : List Nat} {i : Int} (h0 : 0 ≤ i) (hx : 0 < x.length - i.toNat) (hy : 0 < y.length - i.toNat) (h : x.take i.toNat = y.take i.toNat) (e : [x.getD i.toNat 0] = [y.getD i.toNat 0]) :
    0 ≤ i + 1 ∧ i + 1 ≤ x.length ∧ i + 1 ≤ y.length ∧ x.take (i + 1).toNat = y.take (i + 1).toNat := by
  refine ⟨by omega, by omega, by omega, ?_⟩
  rw [show (i + 1).toNat = i.toNat + 1 by omega]
  exact take_one (by omega) (by omega) h (by simpa using e)
theorem done_pre {x y : List Nat} {i : Int} (h0 : 0 ≤ i) (h1 : i ≤ x.length) (h2 : i ≤ y.length) (h : x.take i.toNat = y.take i.toNat) (e : ¬ 0 < x.length - i.toNat ∨ ¬ 0 < y.length - i.toNat ∨ ¬ [x.getD i.toNat 0] = [y.getD i.toNat 0]) :
    0 ≤ i ∧ i ≤ x.length ∧ i ≤ y.length ∧ IsPre x y i.toNat := by
  refine ⟨h0, h1, h2, by omega, by omega, h, fun a b => ?_⟩
  rcases e with e | e | e
  · omega
  · omega
  · simpa using e
theorem step_post {x y : List Nat} {i : Int} (h0 : i ≤ 0) (h1 : -(x.length : Int) ≤ i) (h2 : -(y.length : Int) ≤ i) (hx : -(x.length : Int) < i) (hy : -(y.length : Int) < i) (h : x.drop (i + x.length).toNat = y.drop (i + y.length).toNat) (e : [x.getD (i - 1 + x.length).toNat 0] = [y.getD (i - 1 + y.length).toNat 0]) :
    i - 1 ≤ 0 ∧ -(x.length : Int) ≤ i - 1 ∧ -(y.length : Int) ≤ i - 1 ∧ x.drop (i - 1 + x.length).toNat = y.drop (i - 1 + y.length).toNat := by
  refine ⟨by omega, by omega, by omega, ?_⟩
  refine drop_one (by omega) (by omega) ?_ (by simpa using e)
  rw [show (i - 1 + x.length).toNat + 1 = (i + x.length).toNat by omega, show (i - 1 + y.length).toNat + 1 = (i + y.length).toNat by omega]
  exact h
theorem done_post {x y : List Nat} {i : Int} (h0 : i ≤ 0) (h1 : -(x.length : Int) ≤ i) (h2 : -(y.length : Int) ≤ i) (h : x.drop (i + x.length).toNat = y.drop (i + y.length).toNat) (e : i ≤ -(x.length : Int) ∨ i ≤ -(y.length : Int) ∨ ¬ [x.getD (i - 1 + x.length).toNat 0] = [y.getD (i - 1 + y.length).toNat 0]) :
    i ≤ 0 ∧ -(x.length : Int) ≤ i ∧ -(y.length : Int) ≤ i ∧ IsPost x y (-i).toNat := by
  refine ⟨h0, h1, h2, by omega, by omega, ?_, fun a b => ?_⟩
  · rw [show x.length - (-i).toNat = (i + x.length).toNat by omega, show y.length - (-i).toNat = (i + y.length).toNat by omega]
    exact h
  · rcases e with e | e | e
    · omega
    · omega
    · rw [show x.length - 1 - (-i).toNat = (i - 1 + x.length).toNat by omega, show y.length - 1 - (-i).toNat = (i - 1 + y.length).toNat by omega]
      simpa using e
theorem trim_of {x y x1 y1 : List Nat} {i j : Int} (hi : IsPre x y i.toNat) (hx : x.drop i.toNat = x1) (hy : y.drop i.toNat = y1) (hj : IsPost x1 y1 (-j).toNat) (h0 : j ≤ 0) (h1 : -(x1.length : Int) ≤ j) (h2 : -(y1.length : Int) ≤ j) :
    Trim x y (x1.take (j + x1.length).toNat) (y1.take (j + y1.length).toNat) := by
  subst hx hy
  refine ⟨i.toNat, (-j).toNat, hi, hj, ?_, ?_⟩ <;> congr 1 <;> omega
theorem says_short {x y a b : List Nat} {B : Int} (h : Trim x y a b) (e : a.length = 0 ∨ b.length = 0) : LevSays x y B (2 * ((a.length : Int) + (b.length : Int))) := by
  refine ⟨a, b, h, fun _ => rfl, fun h1 h2 => ?_⟩
  rcases e with e | e
  · exact absurd (List.eq_nil_of_length_eq_zero e) h1
  · exact absurd (List.eq_nil_of_length_eq_zero e) h2
set_option maxRecDepth 100000 in
set_option maxHeartbeats 16000000 in
theorem lev_tell (w : World) (mean : ExcName → Option Value) (mg mb : Str → Option Value) (x y : List Nat) (b : Int) (t u v : Tok) : Tell w mean mg mb 8 28 (x.length ≤ 40 ∧ y.length ≤ 40) [.str (S x) t, .str (S y) u, .int b v] (fun v => ∃ r t, LevSays x y b r ∧ v = .int r t) := by
  intro news dp un gd cn cs a ccd cl outer A₀ base h₀ L m s Q E B F X N T hk hpre hdp hun hret
  obtain ⟨hx, hy⟩ := hpre
  have kMk := kstMark
  refine wpAny_call ?_
  k_dflt (refine' code_def (binds := [(Str.ofString "a", .str (S x) t), (Str.ofString "b", .str (S y) u), (Str.ofString "max_cost", .int b v)]) ?k1 ?k2 ?k3 ?k4 ?k5 ?kA ?kF ?kK ?k6 ?k7 ?k8 ?k9 ?kB ?_ ?c2 ?c3 ?c4 ?c5; (case kA => exact rfl); (case kF => exact rfl); (case kK => assumption); (case k1 => k_asm); (case k2 => k_asm); (case k3 => k_asm); (case k4 => k_asm); (case k5 => k_asm); (case k6 => k_is); (case k7 => k_is); (case k8 => ktr_room); (case k9 => exact BindsTo.of_eq rfl); (case c5 => decide); (case kB => exact locs rfl); (case c2 => exact rfl); (case c3 => exact rfl); (case c4 => exact rfl); k_whole)
  intro g1 L1 h1 FG1 F1 N1 B1 X1 T1
  dsimp only
  k_lift B1
  k_fold
  replace F1 := fr_of F1 (look3 _ _ _ _ _ _)
  tb_rel
  · refine tell_ret (Q := Q) hret ⟨0, _, ?_, rfl⟩ (by k_asm) (by k_asm) (fun _ h => h)
    subst_vars
    exact ⟨[], [], trim_self _, fun _ => rfl, fun h => absurd rfl h⟩
  · refine unstop ?_
    rename Fr _ _ _ _ => F1
    rename News _ _ _ _ => N1
    refine while_int (Str.ofString "pre") (fun i => 0 ≤ i ∧ i ≤ x.length ∧ i ≤ y.length ∧ x.take i.toNat = y.take i.toNat) (fun i => 0 ≤ i ∧ i ≤ x.length ∧ i ≤ y.length ∧ IsPre x y i.toNat) (fun i => x.length - i.toNat) F1 N1 rfl ⟨by omega, by omega, by omega, rfl⟩ ?_ ?_
    · intro i ti h tk ⟨hi0, hi1, hi2, hi3⟩ F2 N2
      clear F1 N1
      tb_rel
      all_goals first
        | refine wh_end (by assumption) (by assumption) (fun _ h => h) rfl (fun z hz => by simp only [if_neg hz]) (step_pre hi0 (by assumption) (by assumption) hi3 (by assumption)) (by tb_start)
        | refine wh_done (by assumption) (by assumption) (fun _ h => h) (done_pre hi0 hi1 hi2 hi3 (by first | exact .inl (by assumption) | exact .inr (.inl (by assumption)) | exact .inr (.inr (by assumption))))
    · intro i ti h tk ⟨hi0, hi1, hi2, hi3⟩ F2 N2
      clear F1 N1
      tb_rel
      refine unstop ?_
      rename Fr _ _ _ _ => F3
      rename News _ _ _ _ => N3
      generalize hx1 : x.drop i.toNat = x1 at *
      generalize hy1 : y.drop i.toNat = y1 at *
      have lx1 : x1.length ≤ 40 := by rw [← hx1, List.length_drop]; omega
      have ly1 : y1.length ≤ 40 := by rw [← hy1, List.length_drop]; omega
      refine while_int (Str.ofString "post") (fun i => i ≤ 0 ∧ -(x1.length : Int) ≤ i ∧ -(y1.length : Int) ≤ i ∧ x1.drop (i + x1.length).toNat = y1.drop (i + y1.length).toNat) (fun i => i ≤ 0 ∧ -(x1.length : Int) ≤ i ∧ -(y1.length : Int) ≤ i ∧ IsPost x1 y1 (-i).toNat) (fun i => x1.length - (-i).toNat) F3 N3 rfl ⟨by omega, by omega, by omega, by simp⟩ ?_ ?_
      · intro j tj h tk ⟨hj0, hj1, hj2, hj3⟩ F4 N4
        clear F3 N3
        tb_rel
        all_goals first
          | refine wh_end (by assumption) (by assumption) (fun _ h => h) rfl (fun z hz => by simp only [if_neg hz]) (step_post hj0 hj1 hj2 (by omega) (by omega) hj3 (by assumption)) (by omega)
          | refine wh_done (by assumption) (by assumption) (fun _ h => h) (done_post hj0 hj1 hj2 hj3 (by first | exact .inl (by omega) | exact .inr (.inl (by omega)) | exact .inr (.inr (by assumption))))
      · intro j tj h tk ⟨hj0, hj1, hj2, hj3⟩ F4 N4
        clear F3 N3
        tb_rel
        · refine unstop ?_
          rename Fr _ _ _ _ => F5
          rename News _ _ _ _ => N5
          generalize hx2 : x1.take (j + x1.length).toNat = x2 at *
          generalize hy2 : y1.take (j + y1.length).toNat = y2 at *
          have lx2 : x2.length = min (j + x1.length).toNat x1.length := by rw [← hx2, List.length_take]
          have ly2 : y2.length = min (j + y1.length).toNat y1.length := by rw [← hy2, List.length_take]
          refine join_swap (x := x2) (y := y2) F5 N5 ?_ ?_
          · tb_rel
            all_goals first
              | refine swap_yes (by omega) (by k_asm) (by k_asm) (fun _ h => .tail _ h)
              | refine swap_no (by omega) (by k_asm) rfl rfl (by k_asm) (fun _ h => h)
          · intro p q ta tb h' k hpq hlen F6 N6
            clear F5 N5
            dsimp only
            have hT : Trim x y x2 y2 := by rw [← hx2, ← hy2]; exact trim_of hi3 hx1 hy1 hj3 hj0 hj1 hj2
            have hp0 : 0 < p.length ∧ 0 < q.length ∧ p.length ≤ 40 ∧ q.length ≤ 40 := by rcases hpq with ⟨rfl, rfl⟩ | ⟨rfl, rfl⟩ <;> omega
            obtain ⟨hp0, hq0, hp9, hq9⟩ := hp0
            clear hx2 hy2 lx2 ly2 hj0 hj1 hj2 hj3 hx1 hy1 lx1 ly1 hi0 hi1 hi2 hi3
            k_with_none
            k_with "state" => first
              | exact ⟨row0_len _, out_start p q _⟩
              | exact ⟨by assumption, in_start (by assumption) (by omega)⟩
              | exact ⟨by assumption, out_turn2 (by assumption) (by omega) hp0⟩
              | exact in_word (by assumption) (by omega) (by omega) (by omega) (Int.le_of_lt (by assumption)) (Int.le_refl _)
              | exact in_word (by assumption) (by omega) (by omega) (by omega) (Int.le_refl _) (Int.not_lt.mp (by assumption))
            tb_rel
            rotate_left
            · refine unstop ?_
              k_state (fun pre row res => row.length = p.length ∧ OutW p q pre.length row res) "row" "result"
              · tb_rel
                refine unstop ?_
                k_state (fun pre row dis res mini => row.length = p.length ∧ InW p q kPre.length pre.length row dis res mini) "row" "distance" "result" "minimum"
                · tb_rel
                · tb_rel
                  all_goals (refine tell_ret (Q := Q) hret ⟨_, _, says_dist hT hpq (.inr ⟨early2 (by assumption) (by omega) hp0 (by omega) (by assumption), by omega⟩) hp0 hq0, rfl⟩ (by k_asm) (by k_asm) (fun _ h => .tail _ (List.mem_append.mpr (.inl h))))
              · tb_rel
                all_goals (refine tell_ret (Q := Q) hret ⟨_, _, says_dist hT hpq (.inl (out_end2 (by assumption) (by omega) hq0)) hp0 hq0, rfl⟩ (by k_asm) (by k_asm) (fun _ h => .tail _ h))
            all_goals (refine tell_ret (Q := Q) hret ⟨_, _, says_dist hT hpq (.inr ⟨early0 (by assumption), by omega⟩) hp0 hq0, rfl⟩ (by k_asm) (by k_asm) (fun _ h => h))
        all_goals (
          have hT := trim_of hi3 hx1 hy1 hj3 hj0 hj1 hj2
          have hR : LevSays x y b _ := says_short hT (by simp only [List.length_take]; omega)
          simp only [List.length_take] at hR
          refine tell_ret (Q := Q) hret ⟨_, _, hR, rfl⟩ (by k_asm) (by k_asm) (fun _ h => h))
theorem part_turn' {x y : List Nat} {i : Nat} {ii k : Int} {above row : List Int} {pre : List Int} {v : Int} (ha : IsRow x y i above) (h : PartRow x y i pre.length row) (hj : pre.length < y.length)
    (hv : v = min (min (above.getD k.toNat 0 + cost (x.getD ii.toNat 0) (y.getD k.toNat 0)) (above.getD (k + 1).toNat 0 + 2)) (row.getD k.toNat 0 + 2)) (hk : k = (pre.length : Int)) (hi : ii = (i : Int)) : PartRow x y i (pre ++ [k]).length (row ++ [v]) := by
  have e1 : k.toNat = pre.length := by omega
  have e2 : (k + 1).toNat = pre.length + 1 := by omega
  have e3 : ii.toNat = i := by omega
  rw [e1, e2, e3] at hv
  rw [List.length_append]
  exact part_turn ha h hj hv
set_option maxRecDepth 100000 in
set_option maxHeartbeats 4000000 in
theorem least_tell (w : World) (mean : ExcName → Option Value) (mg mb : Str → Option Value) (x y : List Nat) (t u : Tok) : Tell w mean mg mb 8 40 (x.length ≤ 40 ∧ y.length ≤ 40 ∧ (∀ c ∈ x, c ∈ Al) ∧ (∀ c ∈ y, c ∈ Al)) [.str (S x) t, .str (S y) u] (fun v => ∃ t, v = .int (ED x y) t) := by
  intro news dp un gd cn cs a ccd cl outer A₀ base h₀ L m s Q E B F X N T hk hpre hdp hun hret
  obtain ⟨hx, hy, hxa, hya⟩ := hpre
  have kMk := kstMark
  refine wpAny_call ?_
  k_dflt (refine' code_def (binds := [(Str.ofString "one", .str (S x) t), (Str.ofString "other", .str (S y) u)]) ?k1 ?k2 ?k3 ?k4 ?k5 ?kA ?kF ?kK ?k6 ?k7 ?k8 ?k9 ?kB ?_ ?c2 ?c3 ?c4 ?c5; (case kA => exact rfl); (case kF => exact rfl); (case kK => assumption); (case k1 => k_asm); (case k2 => k_asm); (case k3 => k_asm); (case k4 => k_asm); (case k5 => k_asm); (case k6 => k_is); (case k7 => k_is); (case k8 => ktr_room); (case k9 => exact BindsTo.of_eq rfl); (case c5 => decide); (case kB => exact locs rfl); (case c2 => exact rfl); (case c3 => exact rfl); (case c4 => exact rfl); k_whole)
  intro g1 L1 h1 FG1 F1 N1 B1 X1 T1
  dsimp only
  k_lift B1
  k_fold
  replace F1 := fr_of F1 (look2 _ _ _ _)
  k_with_none
  tb_rel
  refine unstop ?_
  rename Fr _ _ _ _ => F2
  rename News _ _ _ _ => N2
  rename IsRange _ _ _ _ _ _ _ _ => R2
  rename IntsAre _ _ => I2
  refine range_any (fun i m nx => ∃ D us c row, nx = (D, listOf (List.toArray us) c) :: news ∧ IntsAre us row ∧ IsRow x y i row ∧ m (Str.ofString "above") = some (.ref D) ∧ m (Str.ofString "one") = some (.str (S x) t) ∧ m (Str.ofString "other") = some (.str (S y) u))
    (by rfl) R2 (small_one (by omega) (by omega) (by omega) (by omega)) (rangeSize_nat _ _) F2 N2 ⟨_, _, _, _, rfl, I2, row_start x y _ (by omega), rfl, rfl, rfl⟩ ?_ ?_
  · clear F2 N2
    rintro i ti m1 nx h tk own hi hoff ⟨D, us, c, row, rfl, I3, hrow, e1, e2, e3⟩ F3 N3
    replace F3 : Fr g1 L1 h _ := F3
    replace F3 := fr_of F3 (m' := fun z => if z = Str.ofString "j" then some (.int (0 + (i : Int)) ti) else if z = Str.ofString "above" then some (.ref D) else if z = Str.ofString "one" then some (.str (S x) t) else if z = Str.ofString "other" then some (.str (S y) u) else m1 z) (fun z => by
      by_cases h0 : z = Str.ofString "j"
      · simp only [if_pos h0]
      · by_cases h1 : z = Str.ofString "above"
        · simp only [if_neg h0, if_pos h1]; rw [h1, e1]
        · by_cases h2 : z = Str.ofString "one"
          · simp only [if_neg h0, if_neg h1, if_pos h2]; rw [h2, e2]
          · by_cases h3 : z = Str.ofString "other"
            · simp only [if_neg h0, if_neg h1, if_neg h2, if_pos h3]; rw [h3, e3]
            · simp only [if_neg h0, if_neg h1, if_neg h2, if_neg h3])
    have lrow := hrow.1
    have lus := I3.length
    tb_rel
    refine unstop ?_
    rename ∀ p ∈ (D, listOf (List.toArray us) c) :: news ++ own, p.1 < _ => lA
    have hDl := ltN (lA (D, listOf (List.toArray us) c) (List.mem_append.mpr (.inl (.head _))))
    dsimp only at hDl
    k_with "state" => first
      | exact ⟨rfl, part_start x y i _ (by omega)⟩
      | exact ⟨by simp only [List.length_append, List.length_cons, List.length_nil]; omega, part_turn' hrow (by assumption) (by omega) rfl (by omega) (by omega)⟩
    k_state (fun pre row' => row'.length = pre.length + 1 ∧ PartRow x y i pre.length row') "row"
    · tb_rel
    · tb_rel
      refine any_end2 (by k_asm) (by k_asm) (own_apart hoff lA) ⟨_, _, _, _, rfl, by assumption, part_end (by assumption) (by rw [rangeKs_length]; omega), ?_, ?_, ?_⟩
      all_goals (with_unfolding_all rfl)
  · rintro m1 nx h tk ⟨D, us, c, row, rfl, I3, hrow, e1, e2, e3⟩ F3 N3
    replace F3 : Fr g1 L1 h _ := F3
    replace F3 := fr_know (m := fun z => if z = Str.ofString "other" then some (.str (S y) u) else m1 z) (fr_know F3 e3) (a := Str.ofString "above") (v := .ref D) (by show (if Str.ofString "above" = Str.ofString "other" then _ else _) = _; rw [if_neg (by decide +kernel)]; exact e1)
    have lrow := hrow.1
    have lus := I3.length
    clear F2 N2
    tb_rel
    refine tell_ret (Q := Q) hret ⟨_, congrArg (fun i => Value.int i _) ?_⟩ (by k_asm) (by k_asm) (fun _ h => .tail _ h)
    rw [show ((x.length : Int) - 0).toNat = x.length by omega] at hrow
    rw [Int.toNat_natCast]
    exact hrow.2 _ (Nat.le_refl _)
local macro_rules | `(tactic| walk_at "call builtin:min") => `(tactic| (k_here; (with_reducible show wpAny _ _ (call (Value.builtin "min") [Value.int _ _, Value.int _ _]) _ _ _); k_dflt (refine' min2_N ?k0 ?k1 ?k2 ?_; (case k0 => rfl); (case k1 => k_asm); (case k2 => k_asm)); intro _ _ _ _ _; (try dsimp only)))
local macro_rules | `(tactic| walk_at "CompSrcT") => `(tactic| refine stop_of ?_)
local macro_rules | `(tactic| walk_at "call builtin:max") => `(tactic| ((with_reducible show wpAny _ _ (call (Value.builtin "max") [Value.ref _]) _ _ _); refine stop_of ?_))
theorem trim_at {x y x1 y1 : List Nat} {i : Nat} {j : Int} (hi : IsPre x y i) (hx : x.drop i = x1) (hy : y.drop i = y1) (hj : IsPost x1 y1 j.toNat) (h0 : 0 ≤ j) :
    Trim x y (x1.take ((x1.length : Int) - j).toNat) (y1.take ((y1.length : Int) - j).toNat) := by
  subst hx hy
  refine ⟨i, j.toNat, hi, hj, ?_, ?_⟩ <;> congr 1 <;> omega
theorem drop5 {h₀ h : Heap} {L : Addr} {a b c d e f : Addr × Obj} {news : List (Addr × Obj)} (N : News h₀ L h (a :: b :: c :: d :: e :: f :: news)) : News h₀ L h (a :: news) := fun p hp => by
  rcases List.mem_cons.mp hp with rfl | hp
  · exact N _ (.head _)
  · exact N p (.tail _ (.tail _ (.tail _ (.tail _ (.tail _ (.tail _ hp))))))
set_option maxRecDepth 100000 in
set_option maxHeartbeats 4000000 in
theorem unlike_tell (w : World) (mean : ExcName → Option Value) (mg mb : Str → Option Value) (x y : List Nat) (t u : Tok)
    (news : List (Addr × Obj)) (dp un : Nat) (gd : Option (List Code)) (cn : Str) (cs : Scope) (a : Addr) (ccd : Value) (cl : List (Str × Addr)) (outer : List Env) (A₀ : Around) (base h₀ : Heap) (L : Addr) (m : Str → Option Value) (s : Shared) (Q E : Value → Shared → Prop)
    (B : Below A₀ base outer h₀) (F : Fr h₀ L s.heap m) (X : (hd.heap_39 w.params).In h₀) (N : News h₀ L s.heap news) (T : Top hd.view_39 (looseW hd.view_39 []) mean mg mb h₀) (hk : cs.kind = .function) (hx : x.length ≤ 40) (hy : y.length ≤ 40) (hdp : dp + 8 < recursionLimit) (hun : un + 8 * 8 < cLine)
    (hret : ∀ (D : Addr) (p q : List Nat) (tp tq : Tok) (o : Obj) (h' : Heap) (tk' : Nat), Trim x y p q → o = { cls := .type "tuple", data := .seq #[.str (S p) tp, .str (S q) tq] } → Fr h₀ L h' m → News h₀ L h' ((D, o) :: news) → (∀ p ∈ news, p.1 < D) → Q (.ref D) { s with heap := h', toks := tk' }) :
    wpAny (model PG w) (ktrTop dp un gd cn cs L a ccd cl outer) (call (.ref 45) [.str (S x) t, .str (S y) u]) Q E s := by
  have kMk := kstMark
  refine wpAny_call ?_
  k_dflt (refine' code_defC (binds := [(Str.ofString "one", .str (S x) t), (Str.ofString "other", .str (S y) u)]) ?k1 ?k2 ?k3 ?k4 ?k5 ?kA ?kF ?kK ?k6 ?k7 ?k8 ?k9 ?kB ?kD ?_ ?c2 ?c3 ?c4; (case kA => exact rfl); (case kF => exact rfl); (case kK => assumption); (case k1 => k_asm); (case k2 => k_asm); (case k3 => k_asm); (case k4 => k_asm); (case k5 => k_asm); (case k6 => k_is); (case k7 => k_is); (case k8 => ktr_room); (case k9 => exact BindsTo.of_eq rfl); (case kB => exact rfl); (case kD => decide +kernel); (case c2 => exact rfl); (case c3 => exact rfl); (case c4 => exact rfl); k_whole)
  intro g1 L1 h1 tk1 cells1 FG1 F1 N1 Y1 B1 X1 T1 l1
  have hA1 : ∀ p ∈ news, p.1 < L1 + 1 := fun p hp => Nat.lt_succ_of_lt (l1 p hp)
  have hA2 : ∀ p ∈ news, p.1 < L1 + 1 + 1 := fun p hp => Nat.lt_succ_of_lt (hA1 p hp)
  k_cells Y1
  (try simp only [List.cons_append, List.nil_append] at N1)
  (try dsimp only)
  (try k_lift B1)
  (try k_fold)
  k_with_none
  tb_rel
  refine unstop ?_
  rename Fr _ _ _ _ => F2
  rename News _ _ _ _ => N2
  rename IsRange _ _ _ _ _ _ _ _ => R2
  refine LCt.CompSrcT.range (by rfl) F2 N2 R2 (small_one (by omega) (by omega) (by omega) (by omega)) (rangeSize_nat _ _) (by rw [PySem.sizeLine_eq]; omega) ?_
  intro g9
  refine kci_range (fun l k => if x.take k.toNat = y.take k.toNat then l ++ [k] else l) ?_ ?_ pick_grows
  · clear F2 N2
    intro k tk I oI C oC D m2 ys l h tk E' hlo hhi hI hC hx F3 N3 off ne hMark
    tb_rel
    · refine LCg.CompEnd.intro (by assumption) (by assumption) _ (fun p hp => hp) off True.intro ?_
      refine kci_el (if_pos (by assumption)) rfl rfl
    · refine LCg.CompEnd.intro (by assumption) (by assumption) _ (fun p hp => hp) off True.intro ?_
      refine kci_no (if_neg (by assumption)) rfl
  · refine unstop (P := KPfDone _) ?_
    unfold KPfDone
    intro ys hys hlen
    tb_rel
    refine unstop ?_
    rename Fr _ _ _ _ => F5
    rename News _ _ _ _ => N5
    refine kso_max F5 N5 (by is_list) hys (pick_pos (C := fun k => x.take k.toNat = y.take k.toNat) (by omega) rfl) (by rfl) ?_
    intro h5 M tM k5 F6 N6 hM hmax
    clear F5 N5 F2 N2 R2
    obtain ⟨hM0, hM1, hM2, hM3⟩ := pre_max (by omega) hM hmax
    clear hM hmax hys
    dsimp only
    tb_rel
    refine unstop ?_
    rename Fr _ _ _ _ => F7
    rename News _ _ _ _ => N7
    rename IsRange _ _ _ _ _ _ _ _ => R7
    have lx1 : (x.drop M.toNat).length = x.length - M.toNat := List.length_drop
    have ly1 : (y.drop M.toNat).length = y.length - M.toNat := List.length_drop
    generalize hx1 : x.drop M.toNat = x1 at *
    generalize hy1 : y.drop M.toNat = y1 at *
    refine LCt.CompSrcT.range (by rfl) F7 N7 R7 (small_one (by omega) (by omega) (by omega) (by omega)) (rangeSize_nat _ _) (by rw [PySem.sizeLine_eq]; omega) ?_
    intro g9
    refine kci_range (fun l k => if x1.drop ((x1.length : Int) - k).toNat = y1.drop ((y1.length : Int) - k).toNat then l ++ [k] else l) ?_ ?_ pick_grows
    · clear F7 N7
      intro k tk I oI C oC D m2 ys l h tk E' hlo hhi hI hC hx F3 N3 off ne hMark
      tb_rel
      · refine LCg.CompEnd.intro (by assumption) (by assumption) _ (fun p hp => hp) off True.intro ?_
        refine kci_el (if_pos (by assumption)) rfl rfl
      · refine LCg.CompEnd.intro (by assumption) (by assumption) _ (fun p hp => hp) off True.intro ?_
        refine kci_no (if_neg (by assumption)) rfl
    · refine unstop (P := KPfDone _) ?_
      unfold KPfDone
      intro ys2 hys2 hlen2
      tb_rel
      refine unstop ?_
      rename Fr _ _ _ _ => F5
      rename News _ _ _ _ => N5
      refine kso_max F5 N5 (by is_list) hys2 (pick_pos (C := fun k => x1.drop ((x1.length : Int) - k).toNat = y1.drop ((y1.length : Int) - k).toNat) (by omega) ?_) (by rfl) ?_
      · rw [List.drop_eq_nil_of_le (by omega), List.drop_eq_nil_of_le (by omega)]
      intro h5 P tP k5 F6 N6 hP hmax2
      clear F5 N5 F7 N7 R7 hys2
      obtain ⟨hP0, hP1, hP2, hP3⟩ := post_max (by omega) hP hmax2
      clear hP hmax2
      dsimp only
      tb_rel
      rename _ ∧ _ ∧ _ ∧ _ ∧ _ ∧ AllLt _ news => lE
      rename News h₀ _ _ _ => NE
      rename Fr h₀ _ _ _ => FE
      refine hret _ _ _ _ _ _ _ _ (trim_at hM3 hx1 hy1 hP3 hP0) rfl FE (drop5 NE) (kst_ltOf lE.2.2.2.2.2)
local macro_rules | `(tactic| walk_at "call builtin:min") => `(tactic| (k_here; (with_reducible show wpAny _ _ (call (Value.builtin "min") [Value.int _ _, Value.int _ _]) _ _ _); k_dflt (refine' min2_N ?k0 ?k1 ?k2 ?_; (case k0 => rfl); (case k1 => k_asm); (case k2 => k_asm)); intro _ _ _ _ _; (try dsimp only)))
local macro_rules | `(tactic| walk_at "call builtin:max") => `(tactic| (k_here; (with_reducible show wpAny _ _ (call (Value.builtin "max") [Value.int _ _, Value.int _ _]) _ _ _); k_dflt (refine' max2_N ?k0 ?k1 ?k2 ?_; (case k0 => rfl); (case k1 => k_asm); (case k2 => k_asm)); intro _ _ _ _ _; (try dsimp only)))
local macro_rules | `(tactic| walk_at "CompSrc") => `(tactic| refine stop_of ?_)
local macro_rules | `(tactic| walk_at "call ref") => `(tactic| (k_here; (with_reducible show wpAny _ _ (call (Value.ref _) _) _ _ _); refine stop_of ?_))
local macro_rules | `(tactic| walk_at "binaryOp FloorDiv int int") => `(tactic| (k_here; (with_reducible show wpAny _ _ (binaryOp Operator.FloorDiv (Value.int (Nat.cast _) _) (Value.int 2 _)) _ _ _); refine half_N (by tb_start) ?_; intro _ _; (try dsimp only)))
local macro_rules | `(tactic| walk_at "call builtin:len") => `(tactic| (k_here; (with_reducible show wpAny _ _ (call (Value.builtin "len") [Value.ref _]) _ _ _); k_dflt (refine len_signs (by is_list) (by assumption) rfl (by tb_start) ?_); intro _ _; (try dsimp only)))
local macro_rules | `(tactic| walk_at "subscriptTail Name Slice ref ref") => `(tactic| (k_here; (with_reducible show wpAny _ _ (subscriptTail _ (PySem.Expr.Slice _ _ none _) (Value.ref _) (Value.ref _)) _ _ _); k_dflt (refine' slice_signs ?F ?N ?l ?p ?q ?i ?m ?_ ?s ?t ?z; (case F => k_asm); (case N => k_asm); (case l => kmk_list); (case p => kmk_part); (case q => kmk_part); (case i => assumption); (case m => first | exact signs_from (by assumption) (by omega) | exact signs_upto (by assumption) (by omega)); (case s => with_unfolding_all rfl); (case t => kmk_pure); (case z => tb_start)); intro D' ws' h' F' N' l1 hI' hle'; (try dsimp only); (try k_lt l1); (try k_sweep)))
local macro_rules | `(tactic| walk_at "call builtin:str.join") => `(tactic| (k_here; (with_reducible show wpAny _ _ (call (Value.builtin "str.join") [Value.str _ _, Value.ref _]) _ _ _); k_dflt (refine join_signs (by is_list) (by assumption) (by tb_start) ?_); intro _ _; (try dsimp only)))
local macro_rules | `(tactic| walk_at "binaryOp Add str str") => `(tactic| (k_here; (with_reducible show wpAny _ _ (binaryOp Operator.Add (Value.str _ _) (Value.str (S _) _)) _ _ _); first | (refine add_S (by tb_start) ?_) | (refine add_nil (by tb_start) ?_); intro _ _; (try dsimp only)))
local macro_rules | `(tactic| walk_at "compareOp Eq str str") => `(tactic| (k_here; (with_reducible show wpAny _ _ (compareOp CmpOp.Eq (Value.str (S _) _) (Value.str (Str.ofString "") _)) _ _ _); refine eq_nil ?_))
local macro_rules | `(tactic| walk_at "subscriptTail Name Slice str ref") => `(tactic| (k_here; (with_reducible show wpAny _ _ (subscriptTail _ (Expr.Slice none (some _) none _) (Value.str (S _) _) (Value.ref _)) _ _ _); (with_reducible rename Fr _ _ _ _ => F'); (with_reducible rename News _ _ _ _ => N'); refine sl_big (s := ⟨_, _, _, _, _⟩) F' N' (by tb_start) (by tb_start) ?_; intro _ _ _ _ _; (try dsimp only)))
theorem newsNil {h₀ h : Heap} {L : Addr} {m : Str → Option Value} (_F : Fr h₀ L h m) : News h₀ L h [] := fun _ hp => nomatch hp
local macro_rules | `(tactic| walk_at "call builtin:len") => `(tactic| (k_here; (with_reducible show wpAny _ _ (call (Value.builtin "len") [Value.str (S (_ ++ _)) _]) _ _ _); refine len_S (by exact List.length_append) (by tb_start) ?_))
set_option maxRecDepth 100000 in
set_option maxHeartbeats 16000000 in
theorem law_holds : PySem.Challenge.rw_wy0072_01.Holds := hd (by
  k_go0
  rename List Int => ns
  have kMk := kstMark
  all_goals try k_fold
  k_with_none
  tb_rel
  refine unstop ?_
  rename Fr _ _ _ _ => F1
  rename News _ _ _ _ => N1
  rename IntsAre _ (List.drop 1 _) => I1
  refine LCg.CompSrc.ledger (by rfl) F1 N1 (by k_mem) (by first | size_fits | exact Nat.le_of_ble_eq_true rfl) ?_
  intro g9
  refine kct_list (fun k => S [sgn k]) I1 ?_ ?_
  · clear F1 N1
    intro k tk I oI C oC D m2 ys h tk' E' hk hC hx F3 N3 off ne hMark
    (try (simp only [LCg.Off3, and_true] at off))
    tb_rel
    exact kct_el (item_sgn k) rfl rfl
  · refine unstop (P := KPfDone _) ?_
    unfold KPfDone
    intro ys hys hlen
    have hS := signs_of hys
    obtain ⟨cs, hcs⟩ : ∃ cs, cs = (ns.drop 1).map sgn := ⟨_, rfl⟩
    rw [← hcs] at hS
    have hm : ∀ c ∈ cs, c ∈ Al := by rw [hcs]; exact signs_mem
    have hl : cs.length ≤ 62 := by rw [hcs, List.length_map, List.length_drop]; omega
    clear hys hlen hcs
    have hlt : (cs.take (((cs.length / 2 : Nat) : Int)).toNat).length ≤ 31 := by rw [List.length_take]; omega
    have hld : (cs.drop (((cs.length / 2 : Nat) : Int)).toNat).length ≤ 31 := by rw [List.length_drop]; omega
    have mlt : ∀ c ∈ cs.take (((cs.length / 2 : Nat) : Int)).toNat, c ∈ Al := fun c hc => hm c (List.mem_of_mem_take hc)
    have mld : ∀ c ∈ cs.drop (((cs.length / 2 : Nat) : Int)).toNat, c ∈ Al := fun c hc => hm c (List.mem_of_mem_drop hc)
    tb_rel
    refine unstop ?_
    generalize hx : List.take (((cs.length / 2 : Nat) : Int)).toNat cs = x at *
    generalize hy : List.drop (((cs.length / 2 : Nat) : Int)).toNat cs = y at *
    generalize hb : (List.take 1 ns).sum.fmod 100 = b at *
    clear hx hy hb hm hl hS
    rename Fr _ _ _ _ => F2
    have N2 : News _ _ _ [] := newsNil F2
    refine lev_tell _ _ _ _ x y b _ _ _ [] _ _ _ _ _ _ _ _ _ _ _ _ _ _ _ _ _ (by k_asm) F2 (by k_asm) N2 (by k_asm) rfl ⟨by omega, by omega⟩ (by ktr_room) (by ktr_units) ?_
    rintro _ h3 tk3 ⟨told, tt, hL, rfl⟩ F3 N3
    dsimp only
    clear F2 N2
    tb_rel
    refine unstop ?_
    rename Fr _ _ _ _ => F4
    rename News _ _ _ _ => N4
    refine unlike_tell _ _ _ _ x y _ _ [] _ _ _ _ _ _ _ _ _ _ _ _ _ _ _ _ _ (by k_asm) F4 (by k_asm) N4 (by k_asm) rfl (by omega) (by omega) (by ktr_room) (by ktr_units) ?_
    intro D p q tp tq o h4 tk4 hT ho F5 N5 hD
    subst ho
    have H1 := says_at hL hT
    have hlp := trim_len hT
    have mp := trim_sub hT
    dsimp only
    clear F4 N4
    tb_rel
    all_goals first
      | (exfalso; omega)
      | skip
    rotate_left 2
    refine unstop ?_
    rename Fr _ _ _ _ => F6
    have N6 := newsNil F6
    refine least_tell _ _ _ _ p q _ _ [] _ _ _ _ _ _ _ _ _ _ _ _ _ _ _ _ _ (by k_asm) F6 (by k_asm) N6 (by k_asm) rfl ⟨by omega, by omega, fun c hc => mlt c (mp.1 c hc), fun c hc => mld c (mp.2 c hc)⟩ (by ktr_room) (by ktr_units) ?_
    rintro _ h5 tk5 ⟨tl, rfl⟩ F7 N7
    dsimp only
    clear F6 N6
    tb_rel
    all_goals first
      | (exfalso; omega)
      | skip
    all_goals (
      refine unstop ?_
      rename Fr _ _ _ _ => F8
      have N8 := newsNil F8
      refine lev_tell _ _ _ _ y x b _ _ _ [] _ _ _ _ _ _ _ _ _ _ _ _ _ _ _ _ _ (by k_asm) F8 (by k_asm) N8 (by k_asm) rfl ⟨by omega, by omega⟩ (by ktr_room) (by ktr_units) ?_
      rintro _ h6 tk6 ⟨again, ta, hL2, rfl⟩ F9 N9
      have H2 := says_back hL2 hT
      dsimp only
      clear F8 N8
      tb_rel)
    all_goals first
      | (exfalso; omega)
      | skip
    all_goals (
      refine unstop ?_
      rename Fr _ _ _ _ => F10
      have N10 := newsNil F10
      refine lev_tell _ _ _ _ x x b _ _ _ [] _ _ _ _ _ _ _ _ _ _ _ _ _ _ _ _ _ (by k_asm) F10 (by k_asm) N10 (by k_asm) rfl ⟨by omega, by omega⟩ (by ktr_room) (by ktr_units) ?_
      rintro _ h7 tk7 ⟨r, tr, hL3, rfl⟩ F11 N11
      have H3 := says_same hL3
      subst H3
      dsimp only
      clear F10 N10
      tb_rel)
    all_goals (k_steps))
end Mine
theorem PySem.Challenge.cw_wy0072_01_holds : PySem.Challenge.rw_wy0072_01.Holds := by
  exact Mine.law_holds
