import PyProof.Rows.All
import Wide.All
import OpenK.AllK
import Wide.FinOn
import PySem.Challenge.RW_re0033_01
set_option Elab.async false
section
open PySem PySem.W PyProof.Rows
namespace Mine
set_option maxRecDepth 100000 in
set_option maxHeartbeats 8000000 in
open_top hd for PySem.Challenge.rw_re0033_01
end Mine
end
section
open PySem PySem.W PyProof.Rows
namespace Mine
noncomputable abbrev prog := PySem.Challenge.rw_re0033_01.row.prog
noncomputable abbrev KK (w : World) : Frag := hd.heap_39 w.params
noncomputable abbrev looseL : List Str := looseW hd.view_39 [Str.ofString "bisect_right", Str.ofString "insort_left", Str.ofString "bisect_left", Str.ofString "_twin_re_1", Str.ofString "_twin_re_2"]
abbrev Led := List (Addr × Obj)
abbrev Loc := Str → Option Value
noncomputable abbrev CallsTo (w : World) (mean : ExcName → Option Value) (mg mb : Loc) (f : Addr) (args : List Value) (kw : List (Str × Value)) (need : Nat) (news : Led) (Post : Value → Led → Prop) : Prop :=
  ∀ (dp un : Nat) (gd : Option (List Code)) (cn : Str) (cs : Scope) (a : Addr) (ccd : Value) (cl : List (Str × Addr)) (outer : List Env) (A₀ : Around) (base h₀ : Heap) (L : Addr) (m : Loc) (s : Shared) (Q E : Value → Shared → Prop),
    Below A₀ base outer h₀ → Fr h₀ L s.heap m → (KK w).In h₀ → News h₀ L s.heap news → Top hd.view_39 looseL mean mg mb h₀ → cs.kind = .function →
    dp + need < recursionLimit → un + 8 * need < cLine →
    (∀ v news' h' tk', Fr h₀ L h' m → News h₀ L h' news' → Post v news' → Q v { s with heap := h', toks := tk' }) →
    wpAny (model prog w) (ktrTop dp un gd cn cs L a ccd cl outer) (call (.ref f) args kw) Q E s
end Mine
end
section
open PySem PySem.W PySem.Calls PyProof.Rows
namespace Mine

/-- locals as a list of bindings -/
def B (bs : List (Str × Value)) : Loc := fun y => bs.lookup y

theorem B_cons (bs : List (Str × Value)) (x : Str) (v : Value) : (fun y => if y = x then some v else B bs y) = B ((x, v) :: bs) := by
  funext y
  unfold B
  rw [List.lookup_cons]
  by_cases h : y = x
  · simp [h]
  · have : (y == x) = false := by simpa using h
    simp [h, this]

theorem lookup_none_of {bs : List (Str × Value)} {y : Str} (h : y ∉ bs.map (·.1)) : bs.lookup y = none := by
  induction bs with
  | nil => rfl
  | cons p r ih =>
    simp only [List.map_cons, List.mem_cons, not_or] at h
    have : (y == p.1) = false := by simpa using h.1
    obtain ⟨a, b⟩ := p
    rw [List.lookup_cons, this]
    exact ih h.2

theorem B_ext {bs bs' : List (Str × Value)} (h : ∀ y ∈ bs.map (·.1) ++ bs'.map (·.1), bs.lookup y = bs'.lookup y) : B bs = B bs' := by
  funext y
  unfold B
  by_cases hy : y ∈ bs.map (·.1) ++ bs'.map (·.1)
  · exact h y hy
  · simp only [List.mem_append, not_or] at hy
    rw [lookup_none_of hy.1, lookup_none_of hy.2]

def AllEq (bs bs' : List (Str × Value)) : List Str → Prop
  | [] => True
  | k :: ks => bs.lookup k = bs'.lookup k ∧ AllEq bs bs' ks
theorem AllEq.mem {bs bs' : List (Str × Value)} : ∀ {ks : List Str}, AllEq bs bs' ks → ∀ y ∈ ks, bs.lookup y = bs'.lookup y
  | _ :: _, h, _, .head _ => h.1
  | _ :: _, h, _, .tail _ m => AllEq.mem h.2 _ m
theorem B_ext' {bs bs' : List (Str × Value)} (h : AllEq bs bs' (bs.map (·.1) ++ bs'.map (·.1))) : B bs = B bs' := B_ext h.mem
theorem fr_fin {m : Loc} {bs bs' : List (Str × Value)} (h1 : m = B bs) (h2 : AllEq bs bs' (bs.map (·.1) ++ bs'.map (·.1))) : m = B bs' := h1.trans (B_ext' h2)
theorem fr_of {g h : Heap} {L : Addr} {m m' : Loc} (F : Fr g L h m) (e : m = m') : Fr g L h m' := e ▸ F
theorem B_cons' (bs : List (Str × Value)) (x : Str) (v : Value) {m : Loc} (h : m = B bs) : (fun y => if y = x then some v else m y) = B ((x, v) :: bs) := by rw [h]; exact B_cons bs x v

section
variable {prog : Program} {w : World} {A : Around} {E : Value → Shared → Prop} {s : Shared} {env : Env} {test : PySem.Expr} {body orelse : List Stmt} {Q : Flow → Shared → Prop}
theorem whl_ind {ι : Type} (Inv : ι → Shared → Prop) (meas : ι → Nat) (k : Nat) (hE : PassesOwn (model prog w) A env E)
    (step : ∀ i s, Inv i s → (∀ i' s', meas i' < meas i → Inv i' s' → ∀ k, WhlRest prog w A E env test body orelse Q k s') →
      wpAny (model prog w) A (isTrue test env (eval test env)) (fun b s₂ => WhlIf b (wpAny (model prog w) A (execs body env) (WhlPost prog w A E env test body orelse Q 0) E s₂) (wpAny (model prog w) A (execs orelse env) Q E s₂)) E s)
    (i : ι) (h : Inv i s) : WhlRest prog w A E env test body orelse Q k s := by
  have all : ∀ n i s, meas i < n → Inv i s → ∀ k, WhlRest prog w A E env test body orelse Q k s := by
    intro n
    induction n with
    | zero => intro i s h; exact absurd h (Nat.not_lt_zero _)
    | succ n ih =>
      intro i s hlt hI k
      exact whl_turn (k := 0) hE (step i s hI fun i' s' hl hI' k' => ih i' s' (by omega) hI' k')
  exact all (meas i + 1) i s (Nat.lt_succ_self _) h k
end
end Mine
namespace Mine
/-- what a body's end must show -/
def RetP (g : Heap) (L' : Addr) (s₀ : Shared) (Post : Value → Led → Prop) (fl : Flow) (s' : Shared) : Prop :=
  ∃ h' tk' m' news', s' = { s₀ with heap := h', toks := tk' } ∧ Fr g L' h' m' ∧ News g L' h' news' ∧ Post (match fl with | .ret v => v | _ => .none) news'

theorem calls_intro {w : World} {mean : ExcName → Option Value} {mg mb : Loc} {f : Addr} {args : List Value} {kw : List (Str × Value)} {need : Nat} {news : Led} {Post : Value → Led → Prop}
    {name qual : Str} {params : Arguments} {body : List Stmt} {scope : Scope} {dV kV doc pm cdv ct oc : Value} {an od : Option Addr} {osl : Array (Option Value)} (bs : List (Str × Value))
    (ho : (KK w).lookup f = some ⟨oc, od, .func (fnOf name qual params body scope dV kV doc pm an cdv ct), osl⟩) (hcd : codeIn (KK w) cdv qual = true)
    (hb : ∀ S, peek (KK w) S (bindArgs (fnOf name qual params body scope dV kV doc pm an cdv ct) ⟨args, kw⟩) = some bs.reverse)
    (hloc : ∀ y ∈ bs.reverse, scope.names.lookup y.1 = some .local) (hcell : ∀ x ∈ scope.names, x.2 ≠ .cell) (hco : scope.isCoroutine = false) (hgen : scope.isGenerator = false) (hk : scope.kind = .function)
    (h : ∀ (dp un : Nat) (gd : Option (List Code)) (outer : List Env) (A₀ : Around) (base g : Heap) (L' : Addr) (h₁ : Heap) (s₀ : Shared),
      Below A₀ base outer g → Fr g L' h₁ (B bs) → (KK w).In g → News g L' h₁ news → (∀ p ∈ news, p.1 < L') → Top hd.view_39 looseL mean mg mb g → dp + need < recursionLimit → un + 8 * need < cLine →
      wpAny (model prog w) (ktrTop dp un gd qual scope L' f cdv [] outer) (execs body (envOf qual scope L' f cdv)) (RetP g L' s₀ Post) (fun _ _ => False) { s₀ with heap := h₁ }) :
    CallsTo w mean mg mb f args kw (need + 1) news Post := by
  intro dp un gd cn cs a ccd cl outer A₀ base h₀ L m s Q E B₀ F X N T hck hd hu hret
  refine wpAny_call (callX_plain (cl := []) B₀ F N T.nolimit rfl rfl hck ((X.keeps F.keep) _ _ ho) rfl (codeRec_of (X.keeps F.keep) hcd) (show dp < recursionLimit by omega) (kp_binds (X.keeps F.keep) hb) hloc (fun g L' h₁ FG F' N' B' st lt => ?_) hcell hco hgen hk)
  have hw := h (dp + 1) (un + 3) gd (envX cn cs L a ccd cl :: outer) _ base g L' h₁ { s with toks := s.toks + bs.reverse.length } B' (by rw [← List.reverse_reverse bs]; exact F') (X.keeps st) N' lt (T.keeps st) (by omega) (by omega)
  refine wpAny_mono hw (fun fl s' hl => ?_) (fun _ _ x => x.elim)
  obtain ⟨h', tk', m', news', rfl, F₁, N₁, hp⟩ := hl
  exact ⟨L', m', news', F₁, N₁, fun F₂ N₂ => hret _ _ _ _ F₂ N₂ hp⟩
end Mine
namespace Mine
section
variable {w : World} {mean : ExcName → Option Value} {mg mb : Loc} {f : Addr} {args : List Value} {kw : List (Str × Value)} {need : Nat} {news : Led} {Post : Value → Led → Prop}
  {dp un : Nat} {gd : Option (List Code)} {cn : Str} {cs : Scope} {a : Addr} {ccd : Value} {cl : List (Str × Addr)} {outer : List Env} {A₀ : Around} {base h₀ : Heap} {L : Addr} {m : Loc} {s : Shared} {Q E : Value → Shared → Prop}
theorem CallsTo.use (C : CallsTo w mean mg mb f args kw need news Post) (B : Below A₀ base outer h₀) (F : Fr h₀ L s.heap m) (X : (KK w).In h₀) (N : News h₀ L s.heap news) (T : Top hd.view_39 looseL mean mg mb h₀) (hk : cs.kind = .function)
    (hd : dp + need < recursionLimit) (hu : un + 8 * need < cLine) (ret : ∀ v news' h' tk', Fr h₀ L h' m → News h₀ L h' news' → Post v news' → Q v { s with heap := h', toks := tk' }) :
    wpAny (model prog w) (ktrTop dp un gd cn cs L a ccd cl outer) (call (.ref f) args kw) Q E s := C _ _ _ _ _ _ _ _ _ _ _ _ _ _ _ _ _ B F X N T hk hd hu ret
end
/-- a list object -/
abbrev lst (vs : List Value) (n : Nat) : Obj := { cls := .type "list", data := .seq vs.toArray n }
end Mine
end
section
open PySem PySem.W PyProof.Rows
namespace Mine
local macro_rules | `(tactic| walk_at "st") => `(tactic| ((with_reducible show wpAny _ _ _ _ _ _); (fail_if_success (with_reducible show wpAny _ _ (exec (Stmt.While _ _ _ _) _) _ _ _)); (fail_if_success (with_reducible show wpAny _ _ (exec (Stmt.For _ _ _ _ _) _) _ _ _)); (fail_if_success (with_reducible show wpAny _ _ (call (Value.ref _) _ _) _ _ _)); first | (k_unfold; (try dsimp only)) | walk1 | (dsimp only; walk1)))
local macro_rules | `(tactic| walk_at "go") => `(tactic| repeat' walk_at "st")
local macro_rules | `(tactic| walk_at "fr") => `(tactic| (refine' fr_fin ?frl ?frr; (case frl => repeat' (first | with_reducible apply B_cons' | exact rfl)); (case frr => repeat' (first | exact trivial | refine And.intro (by with_unfolding_all rfl) ?_))))
local macro_rules | `(tactic| walk_at "fs") => `(tactic| (unfold fitsSsize; simp; omega))
local macro_rules | `(tactic| walk_at "ret") => `(tactic| (refine ⟨_, _, _, _, rfl, by assumption, by assumption, ?_⟩))
local macro_rules | `(tactic| walk_at "sj") => `(tactic| ((fail_if_success (with_reducible show wpAny _ _ (subscriptTail _ (Expr.Slice _ _ _ _) (Value.ref _) _) _ _ _)); (fail_if_success (with_reducible show wpAny _ _ (call (Value.builtin "len") [Value.ref _]) _ _ _)); (fail_if_success (with_reducible show wpAny _ _ (call (Value.builtin "list.pop") _) _ _ _)); (fail_if_success (with_reducible show wpAny _ _ (call (Value.builtin "list.insert") _) _ _ _)); (fail_if_success (with_reducible show wpAny _ _ (call (Value.builtin "list.append") _) _ _ _));  (fail_if_success (with_reducible show wpAny _ _ (call (Value.builtin "sorted") _ _) _ _ _));  walk_at "sti"))
local macro_rules | `(tactic| walk_at "goj") => `(tactic| repeat' walk_at "sj")
local macro_rules | `(tactic| walk_at "sti") => `(tactic| first | walk_at "st" | ((with_reducible show Frag.In _ _ ∧ _); refine ⟨by k_in, ?_⟩) | ((with_reducible show ite _ _ _); first | (rw [if_pos (by first | rfl | decide)]) | (rw [if_neg (by first | decide | (intro h; cases h))]) | walk1))
local macro_rules | `(tactic| walk_at "goi") => `(tactic| repeat' walk_at "sti")
local macro_rules | `(tactic| walk_at "fx") => `(tactic| (refine' fr_front ?frl ?frr; (case frl => repeat' (first | with_reducible apply B_cons' | exact rfl)); (case frr => repeat' (first | exact trivial | refine And.intro (by with_unfolding_all rfl) ?_))))
/-- a row: so many blanks, a dot, a sign -/
def row (k c : Nat) : Str := ⟨(List.replicate k 32 ++ [46, c]).toArray⟩
theorem row_length (k c : Nat) : (row k c).length = k + 2 := by simp [row, Str.length]
theorem row_slice {n k c : Nat} (hk : k ≤ n) (hn : n ≤ 5) : Txt.slice (row n c) (some (k : Int)) (some ((n : Int) + 2)) = row (n - k) c := by
  have h1 : n = 0 ∨ n = 1 ∨ n = 2 ∨ n = 3 ∨ n = 4 ∨ n = 5 := by omega
  have h2 : k = 0 ∨ k = 1 ∨ k = 2 ∨ k = 3 ∨ k = 4 ∨ k = 5 := by omega
  rcases h1 with rfl | rfl | rfl | rfl | rfl | rfl <;> rcases h2 with rfl | rfl | rfl | rfl | rfl | rfl <;> first | omega | rfl
theorem row_item {k c : Nat} {i : Nat} (h : i < k) : Txt.item (row k c) (i : Int) = ⟨#[32]⟩ := by
  unfold Txt.item Txt.charAt
  have : seqIndex? (i : Int) (row k c).length = some i := by
    rw [row_length]; unfold seqIndex?; simp; omega
  rw [this]
  simp only [row, Option.bind_some, List.getElem?_toArray]
  rw [List.getElem?_append_left (by simpa using h), List.getElem?_replicate]
  simp [h]
local macro_rules | `(tactic| walk_at "call builtin:len") => `(tactic| ((with_reducible show wpAny _ _ (call (Value.builtin "len") [Value.str (row _ _) _]) _ _ _); refine len_str (by rw [row_length]; omega) ?_; rw [row_length]))
set_option maxRecDepth 100000 in
set_option maxHeartbeats 8000000 in
theorem strip_ok (w : World) (mean mg mb) (n k c : Nat) (t t2 : Tok) (hkn : k ≤ n) (hn : n ≤ 5) (news : Led) : CallsTo w mean mg mb 65 [.str (row n c) t, .int k t2] [] 1 news (fun v n' => n' = news ∧ ∃ t', v = .str (row (n - k) c) t') := by
  w_top off
  refine calls_intro (need := 0) [("amount", .int k t2), ("s", .str (row n c) t)] rfl rfl (fun _ => rfl) (locs rfl) (by decide) rfl rfl rfl ?_
  dsimp only [KK, looseL, prog]
  k_fill
  intro dp un gd outer A₀ base g L h₁ s₀ B F X N lt T hd hu
  have hrl : (row n c).length = n + 2 := row_length n c
  walk_at "go"
  refine whl_start 0 ?_
  refine whl_ind (ι := Nat) (fun i s' => ∃ h tk t3 t4, s' = { s₀ with heap := h, toks := tk } ∧ Fr g L h (Mine.B [("s", .str (row n c) t), ("amount", .int (k - i : Nat) t3), ("lpos", .int i t4)]) ∧ News g L h news ∧ i ≤ k) (fun i => k - i) 0 PassesOwn.never ?step 0 ?init
  case init =>
    refine ⟨_, _, ?_, ?_, rfl, fr_of (by assumption) ?e, by assumption, by omega⟩
    case e => walk_at "fr"
  case step =>
    rintro i s' ⟨h, tk, t3, t4, rfl, F, N, hik⟩ IH
    walk1; walk1; walk1; walk1; walk1
    · walk1; walk1; walk1; walk1; walk1
      refine item_str (by walk_at "fs") (by rw [row_length]; omega) (by rw [row_length]; omega) ?_
      intro _
      rw [row_item (by omega)]
      walk_at "go"
      rw [if_pos (by decide)]
      walk_at "go"
      refine WhlIf.yes rfl ?_
      walk_at "go"
      refine IH (i + 1) _ (by omega) ?_ 0
      refine ⟨_, _, ?_, ?_, rfl, fr_of (by assumption) ?e, by assumption, by omega⟩
      case e =>
        rw [show ((k - (i + 1) : Nat) : Int) = ((k - i : Nat) : Int) - 1 by omega, show ((i + 1 : Nat) : Int) = (i : Int) + 1 by omega]
        walk_at "fr"
    · have hki : k = i := by omega
      subst hki
      refine WhlIf.no rfl ?_
      walk_at "go"
      refine whl_start 1 (whl_turn PassesOwn.never ?_)
      walk1; walk1; walk1; walk1; walk1
      · omega
      refine WhlIf.no rfl ?_
      walk_at "go"
      walk_at "ret"
      rw [show ((n + 2 : Nat) : Int) - 1 + 1 = (n : Int) + 2 by omega, row_slice hkn hn]
      exact ⟨rfl, _, rfl⟩
end Mine
end
section
open PySem PySem.W PyProof.Rows
set_option pp.deepTerms false
set_option pp.deepTerms.threshold 3
set_option pp.maxSteps 3000
namespace Mine
local macro_rules | `(tactic| walk_at "st") => `(tactic| ((with_reducible show wpAny _ _ _ _ _ _); (fail_if_success (with_reducible show wpAny _ _ (exec (Stmt.While _ _ _ _) _) _ _ _)); (fail_if_success (with_reducible show wpAny _ _ (exec (Stmt.For _ _ _ _ _) _) _ _ _)); (fail_if_success (with_reducible show wpAny _ _ (call (Value.ref _) _ _) _ _ _)); first | (k_unfold; (try dsimp only)) | walk1 | (dsimp only; walk1)))
local macro_rules | `(tactic| walk_at "go") => `(tactic| repeat' walk_at "st")
local macro_rules | `(tactic| walk_at "fr") => `(tactic| (refine' fr_fin ?frl ?frr; (case frl => repeat' (first | with_reducible apply B_cons' | exact rfl)); (case frr => repeat' (first | exact trivial | refine And.intro (by with_unfolding_all rfl) ?_))))
local macro_rules | `(tactic| walk_at "fs") => `(tactic| (unfold fitsSsize; simp; omega))
local macro_rules | `(tactic| walk_at "ret") => `(tactic| (refine ⟨_, _, _, _, rfl, by assumption, by assumption, ?_⟩))
local macro_rules | `(tactic| walk_at "sj") => `(tactic| ((fail_if_success (with_reducible show wpAny _ _ (subscriptTail _ (Expr.Slice _ _ _ _) (Value.ref _) _) _ _ _)); (fail_if_success (with_reducible show wpAny _ _ (call (Value.builtin "len") [Value.ref _]) _ _ _)); (fail_if_success (with_reducible show wpAny _ _ (call (Value.builtin "list.pop") _) _ _ _)); (fail_if_success (with_reducible show wpAny _ _ (call (Value.builtin "list.insert") _) _ _ _)); (fail_if_success (with_reducible show wpAny _ _ (call (Value.builtin "list.append") _) _ _ _));  (fail_if_success (with_reducible show wpAny _ _ (call (Value.builtin "sorted") _ _) _ _ _));  walk_at "sti"))
local macro_rules | `(tactic| walk_at "goj") => `(tactic| repeat' walk_at "sj")
local macro_rules | `(tactic| walk_at "sti") => `(tactic| first | walk_at "st" | ((with_reducible show Frag.In _ _ ∧ _); refine ⟨by k_in, ?_⟩) | ((with_reducible show ite _ _ _); first | (rw [if_pos (by first | rfl | decide)]) | (rw [if_neg (by first | decide | (intro h; cases h))]) | walk1))
local macro_rules | `(tactic| walk_at "goi") => `(tactic| repeat' walk_at "sti")
local macro_rules | `(tactic| walk_at "fx") => `(tactic| (refine' fr_front ?frl ?frr; (case frl => repeat' (first | with_reducible apply B_cons' | exact rfl)); (case frr => repeat' (first | exact trivial | refine And.intro (by with_unfolding_all rfl) ?_))))
set_option maxRecDepth 100000 in
set_option maxHeartbeats 8000000 in
theorem size_ok (w : World) (mean mg mb) (x : Str) (t : Tok) (hx : x.length ≤ 100) (news : Led) : CallsTo w mean mg mb 89 [.str x t] [] 1 news (fun v n' => n' = news ∧ ∃ t', v = .int x.length t') := by
  w_top off
  refine calls_intro (need := 0) [("row", .str x t)] rfl rfl (fun _ => rfl) (locs rfl) (by decide) rfl rfl rfl ?_
  dsimp only [KK, looseL, prog]
  k_fill
  intro dp un gd outer A₀ base g L h₁ s₀ B F X N lt T hd hu
  walk_at "go"
  walk_at "ret"
  exact ⟨rfl, _, rfl⟩
theorem srt_le {rs : List (Nat × Nat)} (h : rs.Pairwise (fun a b => a.1 ≤ b.1)) {i j : Nat} {a b : Nat × Nat} (hij : i ≤ j) (ha : rs[i]? = some a) (hb : rs[j]? = some b) : a.1 ≤ b.1 := by
  obtain ⟨hi, rfl⟩ := List.getElem?_eq_some_iff.mp ha
  obtain ⟨hj, rfl⟩ := List.getElem?_eq_some_iff.mp hb
  rcases Nat.lt_or_eq_of_le hij with h' | rfl
  · exact List.pairwise_iff_getElem.mp h i j hi hj h'
  · exact Nat.le_refl _
theorem tw_len {α : Type} {p : α → Bool} : ∀ {rs : List α} (n : Nat), (∀ i, i < n → ∀ r, rs[i]? = some r → p r = true) → (∀ r, rs[n]? = some r → p r = false) → n ≤ rs.length → (rs.takeWhile p).length = n
  | [], n, _, _, hn => by simp at hn; simp [hn]
  | a :: rs, 0, _, h2, _ => by
    have := h2 a rfl
    simp [List.takeWhile_cons, this]
  | a :: rs, n + 1, h1, h2, hn => by
    have h0 := h1 0 (Nat.succ_pos _) a rfl
    rw [List.takeWhile_cons, h0]
    simp only [if_true, List.length_cons]
    rw [tw_len n (fun i hi r hr => h1 (i + 1) (by omega) r (by simpa using hr)) (fun r hr => h2 r (by simpa using hr)) (by simpa using hn)]
theorem rws_getD {rs : List (Nat × Nat)} {i : Nat} {r : Nat × Nat} (h : rs[i]? = some r) : (rs.map fun p => row p.1 p.2).getD i Str.empty = row r.1 r.2 := by
  simp [List.getD, h]
abbrev rws (rs : List (Nat × Nat)) : List Str := rs.map fun p => row p.1 p.2
set_option maxRecDepth 100000 in
set_option maxHeartbeats 8000000 in
theorem bl_ok (w : World) (mean mg mb) (x : Int) (t t2 : Tok) (q : Addr) (vs : List Value) (rs : List (Nat × Nat)) (n : Nat) (hs : StrsAre vs (rws rs)) (hlen : rs.length ≤ 6) (hsrt : rs.Pairwise (fun a b => a.1 ≤ b.1)) (hmax : ∀ p ∈ rs, p.1 ≤ 5) (news : Led) :
    CallsTo w mean mg mb 58 [.ref q, .int x t, .int 0 t2, .none] [("key", .ref 89)] 2 ((q, lst vs n) :: news) (fun v n' => n' = (q, lst vs n) :: news ∧ ∃ t', v = .int (rs.takeWhile fun p => decide ((p.1 : Int) + 2 < x)).length t') := by
  w_top off
  refine calls_intro (need := 1) [("key", .ref 89), ("hi", .none), ("lo", .int 0 t2), ("x", .int x t), ("a", .ref q)] rfl rfl (fun _ => rfl) (locs rfl) (by decide) rfl rfl rfl ?_
  dsimp only [KK, looseL, prog]
  k_fill
  intro dp un gd outer A₀ base g L h₁ s₀ B F X N lt T hd hu
  walk_at "goi"
  refine len_strsA (News.isList (by assumption) (.head _)) hs (by simp; omega) ?_
  rw [List.length_map]
  walk_at "goi"
  refine whl_start 0 ?_
  refine whl_ind (ι := Nat × Nat) (fun p s' => ∃ h tk t3 t4, ∃ ex : List (Str × Value), s' = { s₀ with heap := h, toks := tk } ∧ Fr g L h (Mine.B (("lo", .int p.1 t3) :: ("hi", .int p.2 t4) :: ("key", .ref 89) :: ("x", .int x t) :: ("a", .ref q) :: ex)) ∧ (ex = [] ∨ ∃ v, ex = [(Str.ofString "mid", v)]) ∧
    News g L h ((q, lst vs n) :: news) ∧ p.1 ≤ p.2 ∧ p.2 ≤ rs.length ∧ (∀ i, i < p.1 → ∀ r, rs[i]? = some r → (r.1 : Int) + 2 < x) ∧ (∀ i, p.2 ≤ i → ∀ r, rs[i]? = some r → ¬ (r.1 : Int) + 2 < x)) (fun p => p.2 - p.1) 0 PassesOwn.never ?step (0, rs.length) ?init
  case init =>
    refine ⟨_, _, ?_, ?_, [], rfl, fr_of (by assumption) ?e, .inl rfl, by assumption, by omega, by omega, fun i hi => absurd hi (Nat.not_lt_zero _), fun i hi r hr => ?_⟩
    case e => walk_at "fr"
    · have := List.getElem?_eq_none (l := rs) hi
      rw [this] at hr; cases hr
  case step =>
    rintro ⟨lo, hi⟩ s' ⟨h, tk, t3, t4, ex, rfl, F, hex, N, h1, h2, h3, h4⟩ IH
    dsimp only at *
    walk_at "goi"
    by_cases hlt : lo < hi
    · refine WhlIf.yes (by simp; omega) ?_
      walk_at "goi"
      have hm : ((lo : Int) + (hi : Int)).fdiv 2 = (((lo + hi) / 2 : Nat) : Int) := by rw [Int.fdiv_eq_ediv_of_nonneg _ (by omega)]; omega
      obtain ⟨r, hr⟩ : ∃ r, rs[(lo + hi) / 2]? = some r := ⟨rs[(lo + hi) / 2], List.getElem?_eq_getElem (by omega)⟩
      rw [hm]
      refine item_strsA (News.isList (by assumption) (.head _)) hs (by omega) (by rw [List.length_map]; omega) (by omega) ?_
      intro t'
      rw [Int.toNat_natCast, rws_getD hr]
      walk_at "goi"
      refine CallsTo.use (size_ok w _ _ _ _ _ (by rw [row_length]; have := hmax r (List.mem_of_getElem? hr); omega) _) B (by assumption) X (by assumption) T rfl (by omega) (by omega) ?_
      rintro v news' h' tk' F' N' ⟨rfl, t5, rfl⟩
      rw [row_length]
      walk_at "goi"
      · refine IH ((lo + hi) / 2 + 1, hi) _ (by dsimp only; omega) ⟨_, _, ?_, ?_, [(Str.ofString "mid", ?_)], rfl, fr_of (by assumption) ?e, .inr ⟨_, rfl⟩, by assumption, by dsimp only; omega, by dsimp only; omega, ?p3, ?p4⟩ 0
        case e =>
          dsimp only
          rw [show (((lo + hi) / 2 + 1 : Nat) : Int) = ((lo : Int) + (hi : Int)).fdiv 2 + 1 by rw [hm]; omega]
          rcases hex with rfl | ⟨v, rfl⟩ <;> walk_at "fr"
        case p3 =>
          intro i hi' r' hr'
          have := srt_le hsrt (show i ≤ (lo + hi) / 2 by dsimp only at hi'; omega) hr' hr
          omega
        case p4 => exact h4
      · refine IH (lo, (lo + hi) / 2) _ (by dsimp only; omega) ⟨_, _, ?_, ?_, [(Str.ofString "mid", ?_)], rfl, fr_of (by assumption) ?e, .inr ⟨_, rfl⟩, by assumption, by dsimp only; omega, by dsimp only; omega, ?p3, ?p4⟩ 0
        case e =>
          dsimp only
          rw [show (((lo + hi) / 2 : Nat) : Int) = ((lo : Int) + (hi : Int)).fdiv 2 by rw [hm]]
          rcases hex with rfl | ⟨v, rfl⟩ <;> walk_at "fr"
        case p3 => exact h3
        case p4 =>
          intro i hi' r' hr'
          have := srt_le hsrt (show (lo + hi) / 2 ≤ i by dsimp only at hi'; omega) hr hr'
          omega
    · refine WhlIf.no (by simp; omega) ?_
      walk_at "goi"
      walk_at "ret"
      have e : lo = hi := by omega
      subst e
      rw [tw_len lo (fun i hi' r hr => decide_eq_true (h3 i hi' r hr)) (fun r hr => decide_eq_false (h4 lo (Nat.le_refl _) r hr)) h2]
      exact ⟨rfl, _, rfl⟩
set_option maxRecDepth 100000 in
set_option maxHeartbeats 8000000 in
theorem br_ok (w : World) (mean mg mb) (x : Int) (t : Tok) (q : Addr) (vs : List Value) (rs : List (Nat × Nat)) (n : Nat) (hs : StrsAre vs (rws rs)) (hlen : rs.length ≤ 6) (hsrt : rs.Pairwise (fun a b => a.1 ≤ b.1)) (hmax : ∀ p ∈ rs, p.1 ≤ 5) (news : Led) :
    CallsTo w mean mg mb 40 [.ref q, .int x t] [("key", .ref 89)] 2 ((q, lst vs n) :: news) (fun v n' => n' = (q, lst vs n) :: news ∧ ∃ t', v = .int (rs.takeWhile fun p => decide (¬ x < (p.1 : Int) + 2)).length t') := by
  w_top off
  refine calls_intro (need := 1) [("key", .ref 89), ("hi", .none), ("lo", .int 0 _), ("x", .int x t), ("a", .ref q)] rfl rfl (fun _ => rfl) (locs rfl) (by decide) rfl rfl rfl ?_
  dsimp only [KK, looseL, prog]
  k_fill
  intro dp un gd outer A₀ base g L h₁ s₀ B F X N lt T hd hu
  walk_at "goi"
  refine len_strsA (News.isList (by assumption) (.head _)) hs (by simp; omega) ?_
  rw [List.length_map]
  walk_at "goi"
  refine whl_start 0 ?_
  refine whl_ind (ι := Nat × Nat) (fun p s' => ∃ h tk t3 t4, ∃ ex : List (Str × Value), s' = { s₀ with heap := h, toks := tk } ∧ Fr g L h (Mine.B (("lo", .int p.1 t3) :: ("hi", .int p.2 t4) :: ("key", .ref 89) :: ("x", .int x t) :: ("a", .ref q) :: ex)) ∧ (ex = [] ∨ ∃ v, ex = [(Str.ofString "mid", v)]) ∧
    News g L h ((q, lst vs n) :: news) ∧ p.1 ≤ p.2 ∧ p.2 ≤ rs.length ∧ (∀ i, i < p.1 → ∀ r, rs[i]? = some r → ¬ x < (r.1 : Int) + 2) ∧ (∀ i, p.2 ≤ i → ∀ r, rs[i]? = some r → x < (r.1 : Int) + 2)) (fun p => p.2 - p.1) 0 PassesOwn.never ?step (0, rs.length) ?init
  case init =>
    refine ⟨_, _, ?_, ?_, [], rfl, fr_of (by assumption) ?e, .inl rfl, by assumption, by omega, by omega, fun i hi => absurd hi (Nat.not_lt_zero _), fun i hi r hr => ?_⟩
    case e => walk_at "fr"
    · have := List.getElem?_eq_none (l := rs) hi
      rw [this] at hr; cases hr
  case step =>
    rintro ⟨lo, hi⟩ s' ⟨h, tk, t3, t4, ex, rfl, F, hex, N, h1, h2, h3, h4⟩ IH
    dsimp only at *
    walk_at "goi"
    by_cases hlt : lo < hi
    · refine WhlIf.yes (by simp; omega) ?_
      walk_at "goi"
      have hm : ((lo : Int) + (hi : Int)).fdiv 2 = (((lo + hi) / 2 : Nat) : Int) := by rw [Int.fdiv_eq_ediv_of_nonneg _ (by omega)]; omega
      obtain ⟨r, hr⟩ : ∃ r, rs[(lo + hi) / 2]? = some r := ⟨rs[(lo + hi) / 2], List.getElem?_eq_getElem (by omega)⟩
      rw [hm]
      refine item_strsA (News.isList (by assumption) (.head _)) hs (by omega) (by rw [List.length_map]; omega) (by omega) ?_
      intro t'
      rw [Int.toNat_natCast, rws_getD hr]
      walk_at "goi"
      refine CallsTo.use (size_ok w _ _ _ _ _ (by rw [row_length]; have := hmax r (List.mem_of_getElem? hr); omega) _) B (by assumption) X (by assumption) T rfl (by omega) (by omega) ?_
      rintro v news' h' tk' F' N' ⟨rfl, t5, rfl⟩
      rw [row_length]
      walk_at "goi"
      · refine IH (lo, (lo + hi) / 2) _ (by dsimp only; omega) ⟨_, _, ?_, ?_, [(Str.ofString "mid", ?_)], rfl, fr_of (by assumption) ?e, .inr ⟨_, rfl⟩, by assumption, by dsimp only; omega, by dsimp only; omega, ?p3, ?p4⟩ 0
        case e =>
          dsimp only
          rw [show (((lo + hi) / 2 : Nat) : Int) = ((lo : Int) + (hi : Int)).fdiv 2 by rw [hm]]
          rcases hex with rfl | ⟨v, rfl⟩ <;> walk_at "fr"
        case p3 => exact h3
        case p4 =>
          intro i hi' r' hr'
          have := srt_le hsrt (show (lo + hi) / 2 ≤ i by dsimp only at hi'; omega) hr hr'
          omega
      · refine IH ((lo + hi) / 2 + 1, hi) _ (by dsimp only; omega) ⟨_, _, ?_, ?_, [(Str.ofString "mid", ?_)], rfl, fr_of (by assumption) ?e, .inr ⟨_, rfl⟩, by assumption, by dsimp only; omega, by dsimp only; omega, ?p3, ?p4⟩ 0
        case e =>
          dsimp only
          rw [show (((lo + hi) / 2 + 1 : Nat) : Int) = ((lo : Int) + (hi : Int)).fdiv 2 + 1 by rw [hm]; omega]
          rcases hex with rfl | ⟨v, rfl⟩ <;> walk_at "fr"
        case p3 =>
          intro i hi' r' hr'
          have := srt_le hsrt (show i ≤ (lo + hi) / 2 by dsimp only at hi'; omega) hr' hr
          omega
        case p4 => exact h4
    · refine WhlIf.no (by simp; omega) ?_
      walk_at "goi"
      walk_at "ret"
      have e : lo = hi := by omega
      subst e
      rw [tw_len lo (fun i hi' r hr => decide_eq_true (h3 i hi' r hr)) (fun r hr => decide_eq_false (fun hh => hh (h4 lo (Nat.le_refl _) r hr))) h2]
      exact ⟨rfl, _, rfl⟩
end Mine
end
section
open PySem PySem.W PyProof.Rows
set_option pp.deepTerms false
set_option pp.deepTerms.threshold 3
set_option pp.maxSteps 3000
namespace Mine
local macro_rules | `(tactic| walk_at "st") => `(tactic| ((with_reducible show wpAny _ _ _ _ _ _); (fail_if_success (with_reducible show wpAny _ _ (exec (Stmt.While _ _ _ _) _) _ _ _)); (fail_if_success (with_reducible show wpAny _ _ (exec (Stmt.For _ _ _ _ _) _) _ _ _)); (fail_if_success (with_reducible show wpAny _ _ (call (Value.ref _) _ _) _ _ _)); first | (k_unfold; (try dsimp only)) | walk1 | (dsimp only; walk1)))
local macro_rules | `(tactic| walk_at "go") => `(tactic| repeat' walk_at "st")
local macro_rules | `(tactic| walk_at "fr") => `(tactic| (refine' fr_fin ?frl ?frr; (case frl => repeat' (first | with_reducible apply B_cons' | exact rfl)); (case frr => repeat' (first | exact trivial | refine And.intro (by with_unfolding_all rfl) ?_))))
local macro_rules | `(tactic| walk_at "fs") => `(tactic| (unfold fitsSsize; simp; omega))
local macro_rules | `(tactic| walk_at "ret") => `(tactic| (refine ⟨_, _, _, _, rfl, by assumption, by assumption, ?_⟩))
local macro_rules | `(tactic| walk_at "sj") => `(tactic| ((fail_if_success (with_reducible show wpAny _ _ (subscriptTail _ (Expr.Slice _ _ _ _) (Value.ref _) _) _ _ _)); (fail_if_success (with_reducible show wpAny _ _ (call (Value.builtin "len") [Value.ref _]) _ _ _)); (fail_if_success (with_reducible show wpAny _ _ (call (Value.builtin "list.pop") _) _ _ _)); (fail_if_success (with_reducible show wpAny _ _ (call (Value.builtin "list.insert") _) _ _ _)); (fail_if_success (with_reducible show wpAny _ _ (call (Value.builtin "list.append") _) _ _ _));  (fail_if_success (with_reducible show wpAny _ _ (call (Value.builtin "sorted") _ _) _ _ _));  walk_at "sti"))
local macro_rules | `(tactic| walk_at "goj") => `(tactic| repeat' walk_at "sj")
local macro_rules | `(tactic| walk_at "sti") => `(tactic| first | walk_at "st" | ((with_reducible show Frag.In _ _ ∧ _); refine ⟨by k_in, ?_⟩) | ((with_reducible show ite _ _ _); first | (rw [if_pos (by first | rfl | decide)]) | (rw [if_neg (by first | decide | (intro h; cases h))]) | walk1))
local macro_rules | `(tactic| walk_at "goi") => `(tactic| repeat' walk_at "sti")
local macro_rules | `(tactic| walk_at "fx") => `(tactic| (refine' fr_front ?frl ?frr; (case frl => repeat' (first | with_reducible apply B_cons' | exact rfl)); (case frr => repeat' (first | exact trivial | refine And.intro (by with_unfolding_all rfl) ?_))))
/-- where a row of so many blanks goes -/
def lbd (rs : List (Nat × Nat)) (k : Nat) : Nat := (rs.takeWhile fun p => decide (p.1 < k)).length
def ins (rs : List (Nat × Nat)) (p : Nat × Nat) : List (Nat × Nat) := rs.take (lbd rs p.1) ++ p :: rs.drop (lbd rs p.1)
theorem strs_append {a b : List Value} {x y : List Str} (h1 : StrsAre a x) (h2 : StrsAre b y) : StrsAre (a ++ b) (x ++ y) := by
  induction h1 with
  | nil => exact h2
  | cons s t _ ih => exact .cons s t ih
theorem strs_take {a : List Value} {x : List Str} (h : StrsAre a x) (i : Nat) : StrsAre (a.take i) (x.take i) := by
  induction h generalizing i with
  | nil => simpa using StrsAre.nil
  | cons s t _ ih => cases i with
    | zero => exact .nil
    | succ i => exact .cons s t (ih i)
theorem strs_drop {a : List Value} {x : List Str} (h : StrsAre a x) (i : Nat) : StrsAre (a.drop i) (x.drop i) := by
  induction h generalizing i with
  | nil => simpa using StrsAre.nil
  | cons s t h' ih => cases i with
    | zero => exact .cons s t h'
    | succ i => exact ih i
theorem tw_le {α : Type} (p : α → Bool) (l : List α) : (l.takeWhile p).length ≤ l.length := (List.takeWhile_prefix p).length_le
theorem lbd_eq (rs : List (Nat × Nat)) (k : Nat) : (rs.takeWhile fun p => decide ((p.1 : Int) + 2 < ((k + 2 : Nat) : Int))).length = lbd rs k := by
  unfold lbd
  congr 2
  funext p
  exact decide_eq_decide.mpr (by omega)
theorem ins_strs {vs : List Value} {rs : List (Nat × Nat)} {t : Tok} {k c : Nat} (hs : StrsAre vs (rws rs)) :
    StrsAre (kl_ins vs.toArray.toList ((rs.takeWhile fun p => decide ((p.1 : Int) + 2 < ((k + 2 : Nat) : Int))).length : Nat) (.str (row k c) t)) (rws (ins rs (k, c))) := by
  have hl : vs.length = rs.length := by rw [hs.len_eq, List.length_map]
  have hle := tw_le (fun p : Nat × Nat => decide (p.1 < k)) rs
  rw [lbd_eq]
  unfold kl_ins
  simp only
  rw [if_neg (by omega), Int.toNat_natCast, Nat.min_eq_left (by unfold lbd; omega)]
  unfold ins rws
  rw [List.map_append, List.map_take, List.map_cons, List.map_drop]
  exact strs_append (strs_take hs _) (.cons _ _ (strs_drop hs _))
theorem fits_of {i n : Nat} (h : i ≤ n) (hn : n ≤ 6) : Builtin.List.listFitsIndex (i : Int) = true := by
  unfold Builtin.List.listFitsIndex
  simp
  omega
set_option maxRecDepth 100000 in
set_option maxHeartbeats 8000000 in
theorem ins_ok (w : World) (mean mg mb) (k c : Nat) (t : Tok) (q : Addr) (vs : List Value) (rs : List (Nat × Nat)) (n : Nat) (hs : StrsAre vs (rws rs)) (hlen : rs.length ≤ 6) (hsrt : rs.Pairwise (fun a b => a.1 ≤ b.1)) (hmax : ∀ p ∈ rs, p.1 ≤ 5) (hk : k ≤ 5) (news : Led) (hq : ∀ p ∈ news, p.1 ≠ q) :
    CallsTo w mean mg mb 49 [.ref q, .str (row k c) t] [("key", .ref 89)] 3 ((q, lst vs n) :: news) (fun v n' => v = .none ∧ ∃ vs' m, n' = (q, lst vs' m) :: news ∧ StrsAre vs' (rws (ins rs (k, c)))) := by
  w_top off
  refine calls_intro (need := 2) [("key", .ref 89), ("hi", .none), ("lo", .int 0 _), ("x", .str (row k c) t), ("a", .ref q)] rfl rfl (fun _ => rfl) (locs rfl) (by decide) rfl rfl rfl ?_
  dsimp only [KK, looseL, prog]
  k_fill
  intro dp un gd outer A₀ base g L h₁ s₀ B F X N lt T hd hu
  walk_at "goi"
  refine CallsTo.use (size_ok w _ _ _ _ _ (by rw [row_length]; omega) _) B (by assumption) X (by assumption) T rfl (by omega) (by omega) ?_
  rintro v news' h' tk' F' N' ⟨rfl, t5, rfl⟩
  rw [row_length]
  walk_at "goi"
  refine CallsTo.use (bl_ok w _ _ _ _ _ _ _ _ _ _ hs hlen hsrt hmax _) B (by assumption) X (by assumption) T rfl (by omega) (by omega) ?_
  rintro v news' h' tk' F' N' ⟨rfl, t5, rfl⟩
  walk_at "goi"
  refine kl_insert (its := vs.toArray) (n := n) (by assumption) (by assumption) (fits_of (tw_le _ _) hlen) rfl (Upd.head hq) (by simp only [hs.len_eq, List.length_map]; rw [sizeLine_eq]; omega) ?_
  intro h' F' N'
  walk_at "goi"
  walk_at "ret"
  refine ⟨rfl, _, _, rfl, ?_⟩
  exact ins_strs hs (k := k) (c := c)
end Mine
end
section
open PySem PySem.W PySem.Calls PyProof.Rows
namespace Mine

section
variable {prog : Program} {w : World} {A : Around} {E : Value → Shared → Prop} {s : Shared} {env : Env} {target : PySem.Expr} {it : Value} {body orelse : List Stmt} {Q : Flow → Shared → Prop}
/-- the for loop from here on -/
def ForRest (prog : Program) (w : World) (A : Around) (E : Value → Shared → Prop) (env : Env) (target : PySem.Expr) (it : Value) (body orelse : List Stmt) (Q : Flow → Shared → Prop) (s : Shared) : Prop :=
  codeAny (model prog w) A (.forLoop target it body orelse env) (fun r s' => match r with | .ok f => Q f s' | .error e => cameBackBy (model prog w) A env E e s') s
/-- what is asked behind a turn's body -/
def ForPost (prog : Program) (w : World) (A : Around) (E : Value → Shared → Prop) (env : Env) (target : PySem.Expr) (it : Value) (body orelse : List Stmt) (Q : Flow → Shared → Prop) (f : Flow) (s : Shared) : Prop :=
  match f with
  | .next => ForRest prog w A E env target it body orelse Q s
  | .cont => ForRest prog w A E env target it body orelse Q s
  | .brk => Q .next s
  | .ret v => Q (.ret v) s
/-- one turn -/
def ForStep (prog : Program) (w : World) (A : Around) (E : Value → Shared → Prop) (env : Env) (target : PySem.Expr) (it : Value) (body orelse : List Stmt) (Q : Flow → Shared → Prop) (r : Option Value) (s₁ : Shared) : Prop :=
  match r with
  | none => wpAny (model prog w) A (execs orelse env) Q E s₁
  | some v => wpAny (model prog w) A (letOwnedTupleGo target it v) (fun _ s₂ => wpAny (model prog w) A (assign target env v) (fun _ s₃ =>
      wpAny (model prog w) A (execs body env) (ForPost prog w A E env target it body orelse Q) E s₃) E s₂) E s₁
theorem for_turn (hE : PassesOwn (model prog w) A env E) (h : wpAny (model prog w) A (pyNext it) (ForStep prog w A E env target it body orelse Q) E s) :
    ForRest prog w A E env target it body orelse Q s := by
  refine codeAny_of_tree ?_
  show wpAny _ A ((forTurn target it body orelse env).onRaise (fun x => do noteFrame x env; theTreesLotGoes x)) _ _ s
  refine wpAny_noted ?_
  simp only [forTurn]
  refine wpAny_bind (wpAny_standAt (wpAny_bind (wpAny_onRaise (wpAny_mono h (fun r s₁ h₁ => ?_) fun e s' h' => wpAny_standAt (hE e s' h')))))
  cases r with
  | none =>
    refine wpAny_pure ⟨rfl, ?_⟩
    exact codeAny_block (wpAny_mono (show wpAny _ _ _ _ _ _ from h₁) (fun _ _ x => x) hE)
  | some v =>
    refine wpAny_bind (wpAny_mono (show wpAny _ _ _ _ _ _ from h₁) (fun _ s₂ h₂ => ?_) hE)
    refine wpAny_bind (wpAny_mono h₂ (fun _ s₃ h₃ => ?_) hE)
    refine wpAny_bind (wpAny_mono h₃ (fun f s₄ h₄ => ?_) hE)
    cases f with
    | next => exact wpAny_pure ⟨rfl, h₄⟩
    | cont => exact wpAny_pure ⟨rfl, h₄⟩
    | brk => exact wpAny_pure h₄
    | ret v => exact wpAny_pure h₄
theorem for_ind {ι : Type} (Inv : ι → Shared → Prop) (meas : ι → Nat) (hE : PassesOwn (model prog w) A env E)
    (step : ∀ i s, Inv i s → (∀ i' s', meas i' < meas i → Inv i' s' → ForRest prog w A E env target it body orelse Q s') → wpAny (model prog w) A (pyNext it) (ForStep prog w A E env target it body orelse Q) E s)
    (i : ι) (h : Inv i s) : ForRest prog w A E env target it body orelse Q s := by
  have all : ∀ n i s, meas i < n → Inv i s → ForRest prog w A E env target it body orelse Q s := by
    intro n
    induction n with
    | zero => intro i s h; exact absurd h (Nat.not_lt_zero _)
    | succ n ih =>
      intro i s hlt hI
      exact for_turn hE (step i s hI fun i' s' hl hI' => ih i' s' (by omega) hI')
  exact all (meas i + 1) i s (Nat.lt_succ_self _) h
theorem for_start {iter : PySem.Expr} {pos : Pos}
    (h : wpAny (model prog w) A (eval iter env) (fun x s₁ => wpAny (model prog w) A (pyIter x) (fun it s₂ => ForRest prog w A E env target it body orelse Q s₂) E s₁) E s)
    (hs : ∀ x, foldedSetIterable iter env x = pure x := by intro _; rfl) : wpAny (model prog w) A (exec (.For target iter body orelse pos) env) Q E s := wpAny_For h hs
theorem forStep_name {x : Str} {px : Pos} {v : Value} (h : wpAny (model prog w) A (storeName env x v) (fun _ s₃ => wpAny (model prog w) A (execs body env) (ForPost prog w A E env (.Name x px) it body orelse Q) E s₃) E s) :
    ForStep prog w A E env (.Name x px) it body orelse Q (some v) s := by
  show wpAny _ _ (letOwnedTupleGo (.Name x px) it v) _ _ _
  exact wpAny_pure (wpAny_assign_Name h)
end

section
variable {prog : Program} {w : World} {A : Around} {E : Value → Shared → Prop} {s : Shared} {h₀ h h' : Heap} {L I l : Addr} {m : Loc} {led : Led} {o o' : Obj}
theorem news_of {led' : Led} (N : News h₀ L h led) (hs : ∀ p ∈ led', p ∈ led) : News h₀ L h led' := fun p hp => N p (hs p hp)
theorem news_but (N : News h₀ L h ((I, o) :: led)) (hI : ∀ p ∈ led, p.1 ≠ I) (hs : Heap.SameBut I h h') (ho : h'.get? I = some o') : News h₀ L h' ((I, o') :: led) := by
  have n1 := N _ (.head _)
  intro p hp
  rcases List.mem_cons.mp hp with rfl | hp
  · exact ⟨ho, n1.2⟩
  · exact ⟨(hs.2 _ (hI p hp)).trans (N p (.tail _ hp)).1, (N p (.tail _ hp)).2⟩
theorem news_ext (N : News h₀ L h ((I, o) :: led)) (hI : ∀ p ∈ led, p.1 ≠ I) (hs : Heap.ExtBut I h h') : News h₀ L h' led :=
  fun p hp => ⟨hs _ _ (hI p hp) (N p (.tail _ hp)).1, (N p (.tail _ hp)).2⟩
theorem fr_ext (F : Fr h₀ L h m) (N : News h₀ L h ((I, o) :: led)) (hs : Heap.ExtBut I h h') : Fr h₀ L h' m := by
  have n1 := N _ (.head _)
  obtain ⟨oL, es, ep, hL, r⟩ := F.ns
  refine ⟨⟨oL, es, ep, hs _ _ (Ne.symm n1.2.1) hL, r⟩, fun b x e => hs _ _ (fun q => ?_) (F.keep b x e), F.above⟩
  have := n1.2.2
  rw [← q, e] at this
  cases this
theorem fr_but (F : Fr h₀ L h m) (N : News h₀ L h ((I, o) :: led)) (hs : Heap.SameBut I h h') : Fr h₀ L h' m := fr_ext F N hs.extBut

/-- a list's iterator at place i -/
def IterL (o : Obj) (l : Addr) (i : Nat) : Prop := o.cls = .type "list_iterator" ∧ o.data = .fields #[.ref l, .int i 0]
theorem iter_list {items : Array Value} {Q : Value → Shared → Prop} (F : Fr h₀ L s.heap m) (N : News h₀ L s.heap led) (hl : s.heap.IsList l items)
    (h : ∀ I o h', IterL o l 0 → (∀ p ∈ led, p.1 < I) → Fr h₀ L h' m → News h₀ L h' ((I, o) :: led) → Q (.ref I) { s with heap := h' }) : wpAny (model prog w) A (pyIter (.ref l)) Q E s :=
  wpAny_pyIter_list hl (h _ _ _ ⟨rfl, rfl⟩ (fun p hp => Heap.lt_size (N p hp).1) (F.push _) (N.push F _))
theorem next_list {items : Array Value} {i : Nat} {v : Value} {Q : Option Value → Shared → Prop} (F : Fr h₀ L s.heap m) (N : News h₀ L s.heap ((I, o) :: led)) (hI : ∀ p ∈ led, p.1 ≠ I) (hi : IterL o l i) (hl : s.heap.IsList l items) (hx : items[i]? = some v)
    (h : ∀ o' h', IterL o' l (i + 1) → Fr h₀ L h' m → News h₀ L h' ((I, o') :: led) → Q (some v) { s with heap := h' }) : wpAny (model prog w) A (pyNext (.ref I)) Q E s := by
  refine wpAny_pyNext_list_item ⟨o, (N _ (.head _)).1, hi.1, hi.2⟩ hl hx fun h' hit hs => ?_
  obtain ⟨o', ho', hc, hd⟩ := hit
  exact h o' h' ⟨hc, hd⟩ (fr_but F N hs) (news_but N hI hs ho')
theorem next_list_end {items : Array Value} {i : Nat} {Q : Option Value → Shared → Prop} (hh : A.handled = none) (F : Fr h₀ L s.heap m) (N : News h₀ L s.heap ((I, o) :: led)) (hI : ∀ p ∈ led, p.1 ≠ I) (hi : IterL o l i) (hl : s.heap.IsList l items) (hx : items[i]? = none)
    (h : ∀ h', Fr h₀ L h' m → News h₀ L h' led → Q none { s with heap := h' }) : wpAny (model prog w) A (pyNext (.ref I)) Q E s :=
  wpAny_pyNext_list_end hh ⟨o, (N _ (.head _)).1, hi.1, hi.2⟩ hl hx fun h' hs => h h' (fr_ext F N hs) (news_ext N hI hs)
end
end Mine
namespace Mine
/-- base bindings may be laid in front -/
theorem B_front {bs base : List (Str × Value)} (h : ∀ p ∈ base, bs.lookup p.1 = some p.2) : B bs = B (base ++ bs) := by
  funext y
  unfold B
  induction base with
  | nil => rfl
  | cons p r ih =>
    obtain ⟨a, v⟩ := p
    have h1 := h (a, v) (.head _)
    have h2 := ih fun q hq => h q (.tail _ hq)
    rw [List.cons_append, List.lookup_cons]
    by_cases e : y = a
    · subst e; rw [beq_self_eq_true]; exact h1
    · have : (y == a) = false := by simpa using e
      rw [this]; exact h2
def AllAt (bs : List (Str × Value)) : List (Str × Value) → Prop
  | [] => True
  | p :: r => bs.lookup p.1 = some p.2 ∧ AllAt bs r
theorem AllAt.mem {bs : List (Str × Value)} : ∀ {ps : List (Str × Value)}, AllAt bs ps → ∀ p ∈ ps, bs.lookup p.1 = some p.2
  | _ :: _, h, _, .head _ => h.1
  | _ :: _, h, _, .tail _ m => AllAt.mem h.2 _ m
theorem fr_front {m : Loc} {bs base : List (Str × Value)} (h1 : m = B bs) (h2 : AllAt bs base) : m = B (base ++ bs) := h1.trans (B_front h2.mem)
end Mine
namespace Mine
abbrev BX (base ex : List (Str × Value)) : Loc := B (base ++ ex)
end Mine
end
section
open PySem PySem.W PySem.Calls PyProof.Rows
namespace Mine
section
variable {prog : Program} {w : World} {A : Around} {E : Value → Shared → Prop} {s : Shared}
/-- a zip of an ascii text and a list gives its next pair -/
theorem zipS_item {z TI TO i1 i2 l : Addr} {x : Str} {t : Tok} {k c : Nat} {ys : Array Value} {y a b : Value} {Q : Value → Shared → Prop} (D : ZipApart z TI TO i1 i2 l l)
    (hz : IsZip s.heap z TI TO .none) (hTI : IsPair s.heap TI (.ref i1) (.ref i2)) (hTO : IsPair s.heap TO a b)
    (h1 : s.heap.IsStrIter i1 "str_ascii_iterator" x t k) (h2 : s.heap.IsListIter i2 l k) (hl : s.heap.IsList l ys) (hx : x.cps[k]? = some c) (hy : ys[k]? = some y)
    (hQ : ∀ h' tk u, IsZip h' z TI TO (rawInt s.heap.objs.size) → IsPair h' TO (.str ⟨#[c]⟩ u) y → h'.IsStrIter i1 "str_ascii_iterator" x t (k + 1) → h'.IsListIter i2 l (k + 1) → IsPair h' s.heap.objs.size (.str ⟨#[c]⟩ u) y →
      (∀ c o, c ≠ z → c ≠ TO → c ≠ i1 → c ≠ i2 → s.heap.get? c = some o → h'.get? c = some o) → Q (.ref s.heap.objs.size) { s with heap := h', toks := tk }) :
    wpAny (model prog w) A (Builtin.«zip.__next__» ⟨[.ref z], []⟩) (fun fin s' => ∃ v, fin = .done (.ret v) ∧ Q v s') E s := by
  show wpAny _ _ (field (.ref z) 2 >>= _) _ _ _
  refine wpAny_bind (wpAny_field hz rfl (x := .bool false) rfl ?_)
  show wpAny _ _ (field (.ref z) 3 >>= _) _ _ _
  refine wpAny_bind (wpAny_field hz rfl (x := .ref TI) rfl ?_)
  refine wpAny_bind (wpAny_seqItems hTI rfl ?_)
  show wpAny _ _ (Builtin.SmallTypes.ownedTupleIsFree (.ref z) >>= _) _ _ _
  refine wpAny_bind ?_
  unfold Builtin.SmallTypes.ownedTupleIsFree
  refine wpAny_bind (wpAny_field hz rfl (x := .none) rfl (wpAny_pure ?_))
  simp only [if_true]
  refine wpAny_bind (wpAny_rule ?_)
  refine wpAny_bind (wpAny_field hz rfl (x := .ref TO) rfl ?_)
  refine wpAny_bind (wpAny_setField_rec hz (by simp) fun g1 z1 k1 => ?_)
  replace z1 : IsZip g1 z TI TO .ellipsis := z1
  refine wpAny_bind ?_
  simp only [List.zipIdx_cons, List.zipIdx_nil, List.forIn_cons, List.forIn_nil]
  refine wpAny_bind (wpAny_bind (wpAny_onRaise ?_))
  show wpAny _ _ (Builtin.SmallTypes.nextOf (.ref i1) >>= _) _ _ _
  refine wpAny_bind (wpAny_nextOf_ascii_item (h1.extBut k1.extBut D.i1z) hx fun g2 a2 k2 => wpAny_pure ?_)
  have p2 : IsPair g2 TO a b := k2.extBut _ _ D.TOi1 (k1.extBut _ _ D.TOz hTO)
  refine wpAny_bind (wpAny_seqItems p2 rfl ?_)
  refine wpAny_bind (wpAny_updateSeq_pair p2 fun g3 p3 k3 => ?_)
  replace p3 : IsPair g3 TO (.str ⟨#[c]⟩ s.toks) b := p3
  refine wpAny_bind (wpAny_letGo (wpAny_pure ?_))
  refine wpAny_bind (wpAny_bind (wpAny_onRaise ?_))
  show wpAny _ _ (Builtin.SmallTypes.nextOf (.ref i2) >>= _) _ _ _
  refine wpAny_bind (wpAny_nextOf_list_item (((h2.extBut k1.extBut D.i2z).extBut k2.extBut D.i12.symm).extBut k3.extBut D.TOi2.symm)
    (((hl.extBut k1.extBut D.l2z).extBut k2.extBut D.l2i1).extBut k3.extBut D.l2TO) hy fun g4 a4 k4 => wpAny_pure ?_)
  have p4 : IsPair g4 TO (.str ⟨#[c]⟩ s.toks) b := k4.extBut _ _ D.TOi2 p3
  refine wpAny_bind (wpAny_seqItems p4 rfl ?_)
  refine wpAny_bind (wpAny_updateSeq_pair p4 fun g5 p5 k5 => ?_)
  replace p5 : IsPair g5 TO (.str ⟨#[c]⟩ s.toks) y := p5
  refine wpAny_bind (wpAny_letGo (wpAny_pure (wpAny_pure ?_)))
  refine wpAny_bind (wpAny_seqItems p5 rfl ?_)
  refine wpAny_bind (wpAny_newTuple ?_)
  have hsz : g5.objs.size = s.heap.objs.size := by rw [k5.1, k4.1, k3.1, k2.1, k1.1]
  have z5 : IsZip g5 z TI TO .ellipsis := k5.extBut _ _ D.TOz.symm (k4.extBut _ _ D.i2z.symm (k3.extBut _ _ D.TOz.symm (k2.extBut _ _ D.i1z.symm z1)))
  have u5 : ∀ c o, c ≠ z → c ≠ TO → c ≠ i1 → c ≠ i2 → s.heap.get? c = some o → g5.get? c = some o := fun c o c1 c2 c3 c4 e =>
    k5.extBut _ _ c2 (k4.extBut _ _ c4 (k3.extBut _ _ c2 (k2.extBut _ _ c3 (k1.extBut _ _ c1 e))))
  have a5 : g5.IsStrIter i1 "str_ascii_iterator" x t (k + 1) := ((a2.extBut k3.extBut D.TOi1.symm).extBut k4.extBut D.i12).extBut k5.extBut D.TOi1.symm
  have b5 : g5.IsListIter i2 l (k + 1) := a4.extBut k5.extBut D.TOi2.symm
  have zlt : z < g5.objs.size := Heap.lt_size z5
  show wpAny _ _ (Builtin.SmallTypes.ownedTupleHandOut (.ref z) (.ref g5.objs.size) >>= _) _ _ _
  refine wpAny_bind ?_
  unfold Builtin.SmallTypes.ownedTupleHandOut
  have z6 : IsZip (g5.push { cls := .type "tuple", data := .seq #[.str ⟨#[c]⟩ s.toks, y] }) z TI TO .ellipsis := Heap.get?_push_of_some _ z5
  refine wpAny_bind (wpAny_setField_rec z6 (by simp) fun g7 z7 k7 => ?_)
  replace z7 : IsZip g7 z TI TO (rawInt g5.objs.size) := z7
  refine wpAny_setField_rec z7 (by simp) fun g8 z8 k8 => ?_
  replace z8 : IsZip g8 z TI TO (rawInt g5.objs.size) := z8
  have up : ∀ c o, c ≠ z → g5.get? c = some o → g8.get? c = some o := fun c o c1 e => k8.extBut _ _ c1 (k7.extBut _ _ c1 (Heap.get?_push_of_some _ e))
  have t8 : IsPair g8 g5.objs.size (.str ⟨#[c]⟩ s.toks) y := k8.extBut _ _ (Nat.ne_of_gt zlt) (k7.extBut _ _ (Nat.ne_of_gt zlt) (Heap.get?_push_size _ rfl))
  rw [hsz] at z8 t8
  refine wpAny_pure ⟨_, rfl, ?_⟩
  show Q (.ref g5.objs.size) _
  rw [hsz]
  exact hQ g8 _ _ z8 (up _ _ D.TOz p5) (let ⟨o, ho, r⟩ := a5; ⟨o, up _ _ D.i1z ho, r⟩) (b5.at fun o e => up _ o D.i2z e) t8 fun c o c1 c2 c3 c4 e => up c o c1 (u5 c o c1 c2 c3 c4 e)
theorem zipS_end {z TI TO i1 i2 l : Addr} {x : Str} {t : Tok} {k : Nat} {a b : Value} {Q : Fin → Shared → Prop} (hh : A.handled = none) (D : ZipApart z TI TO i1 i2 l l)
    (hz : IsZip s.heap z TI TO .none) (hTI : IsPair s.heap TI (.ref i1) (.ref i2)) (hTO : IsPair s.heap TO a b)
    (h1 : s.heap.IsStrIter i1 "str_ascii_iterator" x t k) (hx : x.cps[k]? = none)
    (hE : ∀ h' e, (∀ c o, c ≠ z → c ≠ TO → c ≠ i1 → c ≠ i2 → s.heap.get? c = some o → h'.get? c = some o) → (∃ o, h'.get? e = some o ∧ o.cls = .type "StopIteration") → E (.ref e) { s with heap := h' }) :
    wpAny (model prog w) A (Builtin.«zip.__next__» ⟨[.ref z], []⟩) Q E s := by
  show wpAny _ _ (field (.ref z) 2 >>= _) _ _ _
  refine wpAny_bind (wpAny_field hz rfl (x := .bool false) rfl ?_)
  show wpAny _ _ (field (.ref z) 3 >>= _) _ _ _
  refine wpAny_bind (wpAny_field hz rfl (x := .ref TI) rfl ?_)
  refine wpAny_bind (wpAny_seqItems hTI rfl ?_)
  show wpAny _ _ (Builtin.SmallTypes.ownedTupleIsFree (.ref z) >>= _) _ _ _
  refine wpAny_bind ?_
  unfold Builtin.SmallTypes.ownedTupleIsFree
  refine wpAny_bind (wpAny_field hz rfl (x := .none) rfl (wpAny_pure ?_))
  simp only [if_true]
  refine wpAny_bind (wpAny_rule ?_)
  refine wpAny_bind (wpAny_field hz rfl (x := .ref TO) rfl ?_)
  refine wpAny_bind (wpAny_setField_rec hz (by simp) fun g1 z1 k1 => ?_)
  replace z1 : IsZip g1 z TI TO .ellipsis := z1
  refine wpAny_bind ?_
  simp only [List.zipIdx_cons, List.zipIdx_nil, List.forIn_cons, List.forIn_nil]
  refine wpAny_bind (wpAny_bind (wpAny_onRaise ?_))
  show wpAny _ _ (Builtin.SmallTypes.nextOf (.ref i1) >>= _) _ _ _
  refine wpAny_bind (wpAny_nextOf_ascii_end hh (h1.extBut k1.extBut D.i1z) hx fun g2 e k2 he => ?_)
  obtain ⟨oe, hoe, hce⟩ := he
  have z2 : IsZip g2 z TI TO .ellipsis := k2 _ _ D.i1z.symm z1
  have hez : e ≠ z := fun x => by subst x; rw [z2] at hoe; cases hoe; simp at hce
  exact wpAny_setField_rec z2 (by simp) fun g3 _ k3 => hE g3 e (fun c o c1 _ c3 _ x => k3.extBut _ _ c1 (k2 _ _ c3 (k1.extBut _ _ c1 x))) ⟨oe, k3.extBut _ _ hez hoe, hce⟩
end
end Mine
end
section
open PySem PySem.W PySem.Calls PyProof.Rows
namespace Mine
abbrev zH1 (h : Heap) (x : Str) (t : Tok) : Heap := h.push { cls := .type "str_ascii_iterator", data := .fields #[.str x t, .int 0 0] }
abbrev zH2 (h : Heap) (x : Str) (t : Tok) (l : Addr) : Heap := (zH1 h x t).push { cls := .type "list_iterator", data := .fields #[.ref l, .int 0 0] }
abbrev zH3 (h : Heap) (x : Str) (t : Tok) (l : Addr) : Heap := (zH2 h x t l).push { cls := .type "tuple", data := .seq #[.ref h.objs.size, .ref (zH1 h x t).objs.size] }
abbrev zH4 (h : Heap) (x : Str) (t : Tok) (l : Addr) : Heap := (zH3 h x t l).push { cls := .type "tuple", data := .seq #[.none, .none] }
abbrev zH5 (h : Heap) (x : Str) (t : Tok) (l : Addr) : Heap := (zH4 h x t l).push { cls := .type "zip", data := .fields #[.none, .bool false, .bool false, .ref (zH2 h x t l).objs.size, .ref (zH3 h x t l).objs.size] }
set_option maxHeartbeats 4000000 in
theorem meets_zipS (x : Str) (t : Tok) (l : Addr) (ys : Array Value) (ha : x.cps.all (· < 128) = true) :
    Meets (Builtin.«zip.__new__» ⟨[.type "zip", .str x t, .ref l], []⟩) (fun _ R s => s.heap.IsList l ys ∧ R (.ok (.ret (.ref (zH4 s.heap x t l).objs.size))) { s with heap := zH5 s.heap x t l }) :=
  .of_wp fun prog w A R s h => by
    obtain ⟨hp, g, d, tk, os⟩ := s; obtain ⟨hl2, h⟩ := h
    have hsub := sub_zip
    have hL2 : Heap.IsList (Shared.heap ⟨hp.push { cls := .type "str_ascii_iterator", data := .fields #[.str x t, .int 0 0] }, g, d, tk, os⟩) l ys := Heap.IsList.push hl2 _
    wp_walk using wpAny_pyIter_ascii ha, wpAny_pyIter_list hL2
    exact ⟨_, rfl, h⟩

end Mine
end
section
open PySem PySem.W PySem.Calls PyProof.Rows
namespace Mine
/-- an ascii text's iterator at place i -/
def IterS (o : Obj) (x : Str) (t : Tok) (i : Nat) : Prop := o.cls = .type "str_ascii_iterator" ∧ o.data = .fields #[.str x t, .int i 0]
abbrev zipO (I : Addr) (f0 : Value) : Obj := { cls := .type "zip", dict := none, data := .fields #[f0, .bool false, .bool false, .ref (I + 2), .ref (I + 3)], slots := #[] }
abbrev prO (a b : Value) : Obj := { cls := .type "tuple", data := .seq #[a, b] }
def zfr (I : Addr) (f0 a b : Value) (o1 o2 : Obj) : Led := [(I + 4, zipO I f0), (I + 2, prO (.ref I) (.ref (I + 1))), (I + 3, prO a b), (I, o1), (I + 1, o2)]

section
variable {prog : Program} {w : World} {A : Around} {E : Value → Shared → Prop} {s : Shared} {h₀ h h' : Heap} {L I l : Addr} {m : Loc} {led : Led} {o1 o2 : Obj} {x : Str} {t : Tok} {k : Nat}
theorem fr_keep (F : Fr h₀ L h m) (hk : ∀ b o, h.get? b = some o → b = L ∨ h₀.get? b = some o → h'.get? b = some o) : Fr h₀ L h' m := by
  obtain ⟨oL, es, ep, hL, r⟩ := F.ns
  exact ⟨⟨oL, es, ep, hk _ _ hL (.inl rfl), r⟩, fun b x e => hk _ _ (F.keep b x e) (.inr e), F.above⟩
theorem call_zipS {ys : Array Value} {Q : Value → Shared → Prop} (ha : x.cps.all (· < 128) = true) (F : Fr h₀ L s.heap m) (N : News h₀ L s.heap led) (hl : s.heap.IsList l ys)
    (hq : ∀ I o1 o2 h', IterS o1 x t 0 → IterL o2 l 0 → (∀ p ∈ led, p.1 < I) → l < I → Fr h₀ L h' m → News h₀ L h' (zfr I .none .none .none o1 o2 ++ led) → Q (.ref (I + 4)) { s with heap := h' }) :
    wpAny (model prog w) A (call (.type "zip") [.str x t, .ref l]) Q E s := by
  refine callType_new PySem.F.called_zip (by decide) (PySem.F.typeCall_zip_2 _ _) (PySem.F.newCall_zip_2 _ _) (fun obj => PySem.F.args_object_init_3 obj _ _) PySem.F.entry_zip_new (meets_zipS x t l ys ha) ⟨hl, ?_⟩
  have e1 : (zH1 s.heap x t).objs.size = s.heap.objs.size + 1 := Heap.size_push ..
  have e2 : (zH2 s.heap x t l).objs.size = s.heap.objs.size + 2 := by rw [Heap.size_push, e1]
  have e3 : (zH3 s.heap x t l).objs.size = s.heap.objs.size + 3 := by rw [Heap.size_push, e2]
  have e4 : (zH4 s.heap x t l).objs.size = s.heap.objs.size + 4 := by rw [Heap.size_push, e3]
  have f1 := F.push { cls := .type "str_ascii_iterator", data := .fields #[.str x t, .int 0 0] }
  have f2 := f1.push { cls := .type "list_iterator", data := .fields #[.ref l, .int 0 0] }
  have f3 := f2.push { cls := .type "tuple", data := .seq #[.ref s.heap.objs.size, .ref (zH1 s.heap x t).objs.size] }
  have f4 := f3.push { cls := .type "tuple", data := .seq #[.none, .none] }
  have f5 := f4.push { cls := .type "zip", data := .fields #[.none, .bool false, .bool false, .ref (zH2 s.heap x t l).objs.size, .ref (zH3 s.heap x t l).objs.size] }
  have n1 := N.push F { cls := .type "str_ascii_iterator", data := .fields #[.str x t, .int 0 0] }
  have n2 := n1.push f1 { cls := .type "list_iterator", data := .fields #[.ref l, .int 0 0] }
  have n3 := n2.push f2 { cls := .type "tuple", data := .seq #[.ref s.heap.objs.size, .ref (zH1 s.heap x t).objs.size] }
  have n4 := n3.push f3 { cls := .type "tuple", data := .seq #[.none, .none] }
  have n5 := n4.push f4 { cls := .type "zip", data := .fields #[.none, .bool false, .bool false, .ref (zH2 s.heap x t l).objs.size, .ref (zH3 s.heap x t l).objs.size] }
  have g5 : (zH5 s.heap x t l).get? (zH4 s.heap x t l).objs.size = some _ := Heap.get?_push_size _ rfl
  show _ ∧ _
  rw [e4]
  rw [e4] at g5
  refine ⟨⟨_, g5, rfl⟩, hq s.heap.objs.size { cls := .type "str_ascii_iterator", data := .fields #[.str x t, .int 0 0] } { cls := .type "list_iterator", data := .fields #[.ref l, .int 0 0] } _ ⟨rfl, rfl⟩ ⟨rfl, rfl⟩ (fun p hp => Heap.lt_size (N p hp).1) (by obtain ⟨_, e, _⟩ := hl; exact Heap.lt_size e) f5 ?_⟩
  refine news_of n5 fun p hp => ?_
  simp only [zfr, List.cons_append, List.nil_append, List.mem_cons] at hp ⊢
  rcases hp with rfl | rfl | rfl | rfl | rfl | hp
  · exact .inl (by rw [e4, e3, e2])
  · exact .inr (.inr (.inl (by rw [e2, e1])))
  · exact .inr (.inl (by rw [e3]))
  · exact .inr (.inr (.inr (.inr (.inl rfl))))
  · exact .inr (.inr (.inr (.inl (by rw [e1]))))
  · exact .inr (.inr (.inr (.inr (.inr hp))))
end
end Mine
namespace Mine
section
variable {prog : Program} {w : World} {A : Around} {E : Value → Shared → Prop} {s : Shared} {h₀ h h' : Heap} {L I l : Addr} {m : Loc} {led : Led} {o1 o2 : Obj} {x : Str} {t : Tok} {k : Nat}
/-- the addresses of a zip's own objects -/
def ZOff (I : Nat) (b : Nat) : Prop := b ≠ I + 4 ∧ b ≠ I + 2 ∧ b ≠ I + 3 ∧ b ≠ I ∧ b ≠ I + 1
theorem zoff_lt {I b : Nat} (h : b < I) : ZOff I b := by unfold ZOff; refine ⟨?_, ?_, ?_, ?_, ?_⟩ <;> omega
theorem zoff_gt {I b : Nat} (h : I + 4 < b) : ZOff I b := by unfold ZOff; refine ⟨?_, ?_, ?_, ?_, ?_⟩ <;> omega
theorem zapart {I l : Nat} (h : ZOff I l) : ZipApart (I + 4) (I + 2) (I + 3) I (I + 1) l l := by
  obtain ⟨a, b, c, d, e⟩ := h
  constructor <;> first | assumption | exact neN (by omega)
theorem fr_zip (F : Fr h₀ L h m) {f0 a b : Value} (N : News h₀ L h (zfr I f0 a b o1 o2 ++ led)) (hk : ∀ c o, c ≠ I + 4 → c ≠ I + 3 → c ≠ I → c ≠ I + 1 → h.get? c = some o → h'.get? c = some o) : Fr h₀ L h' m := by
  have q : ∀ c, (c = I + 4 ∨ c = I + 3 ∨ c = I ∨ c = I + 1) → c ≠ L ∧ h₀.get? c = none := by
    intro c hc
    rcases hc with e | e | e | e <;> rw [e]
    · exact (N (I + 4, zipO I f0) (by simp [zfr])).2
    · exact (N (I + 3, prO a b) (by simp [zfr])).2
    · exact (N (I, o1) (by simp [zfr])).2
    · exact (N (I + 1, o2) (by simp [zfr])).2
  refine fr_keep F fun c o e hc => ?_
  have off : ¬ (c = I + 4 ∨ c = I + 3 ∨ c = I ∨ c = I + 1) := fun hh => by
    rcases hc with rfl | hc
    · exact (q _ hh).1 rfl
    · rw [(q _ hh).2] at hc; cases hc
  simp only [not_or] at off
  exact hk c o off.1 off.2.1 off.2.2.1 off.2.2.2 e
theorem next_zip {elts : List PySem.Expr} {kk : Nat} {pos : Pos} {env : Env} {body orelse : List Stmt} {Q : Flow → Shared → Prop} {ys : Array Value} {c : Nat} {y a b : Value}
    (F : Fr h₀ L s.heap m) (N : News h₀ L s.heap (zfr I .none a b o1 o2 ++ led)) (hI : ∀ p ∈ led, ZOff I p.1) (h1 : IterS o1 x t k) (h2 : IterL o2 l k) (hlI : ZOff I l) (hl : s.heap.IsList l ys) (hx : x.cps[k]? = some c) (hy : ys[k]? = some y)
    (hq : ∀ T h' tk u o1' o2', IterS o1' x t (k + 1) → IterL o2' l (k + 1) → (∀ p ∈ zfr I .none a b o1 o2 ++ led, p.1 < T) → Fr h₀ L h' m → News h₀ L h' ((T, prO (.str ⟨#[c]⟩ u) y) :: (zfr I .none (.str ⟨#[c]⟩ u) y o1' o2' ++ led)) →
      wpAny (model prog w) A (assign (.Tuple elts kk pos) env (.ref T)) (fun _ s₃ => wpAny (model prog w) A (execs body env) (ForPost prog w A E env (.Tuple elts kk pos) (.ref (I + 4)) body orelse Q) E s₃) E { s with heap := h', toks := tk }) :
    wpAny (model prog w) A (pyNext (.ref (I + 4))) (ForStep prog w A E env (.Tuple elts kk pos) (.ref (I + 4)) body orelse Q) E s := by
  have D := zapart (I := I) hlI
  have hz : IsZip s.heap (I + 4) (I + 2) (I + 3) .none := (N (I + 4, zipO I .none) (by simp [zfr])).1
  have hTI : IsPair s.heap (I + 2) (.ref I) (.ref (I + 1)) := (N (I + 2, prO (.ref I) (.ref (I + 1))) (by simp [zfr])).1
  have hTO : IsPair s.heap (I + 3) a b := (N (I + 3, prO a b) (by simp [zfr])).1
  have g1 := (N (I, o1) (by simp [zfr]))
  have g2 := (N (I + 1, o2) (by simp [zfr]))
  have hT : s.TypeIs (.ref (I + 4)) "zip" := ⟨_, hz, rfl⟩
  unfold pyNext
  refine wpAny_bind (wpAny_attempt (wpAny_callSpecial?_slot (name := Str.ofString "__next__") hT PySem.F.slot_zip_next
    (wpAny_call_entry PySem.F.slot_zip_next hT PySem.F.entry_zip_next
      (zipS_item D hz hTI hTO ⟨o1, g1.1, h1.1, h1.2⟩ ⟨o2, g2.1, h2.1, h2.2⟩ hl hx hy fun h' tk u z1 p1 i1 i2 t1 keep => wpAny_pure ?_) (PySem.F.args_zip_next_1 _))))
  show wpAny _ _ (letOwnedTupleGo (.Tuple elts kk pos) (.ref (I + 4)) (.ref s.heap.objs.size)) _ _ _
  refine wpAny_letOwnedTupleGo_zip z1 fun g z2 k2 => ?_
  obtain ⟨o1', e1, c1, d1⟩ := i1
  obtain ⟨o2', e2, c2, d2⟩ := i2
  have F1 : Fr h₀ L h' m := fr_zip F N keep
  have keep2 : ∀ c o, c ≠ I + 4 → c ≠ I + 3 → c ≠ I → c ≠ I + 1 → s.heap.get? c = some o → g.get? c = some o := fun c o a1 a2 a3 a4 e => k2.extBut _ _ a1 (keep c o a1 a2 a3 a4 e)
  have F2 : Fr h₀ L g m := fr_zip F N keep2
  have fresh : ∀ p ∈ zfr I .none a b o1 o2 ++ led, p.1 < s.heap.objs.size := fun p hp => Heap.lt_size (N p hp).1
  have hL : L < s.heap.objs.size := F.ns.lt
  have fr0 : h₀.get? s.heap.objs.size = none := by
    cases q : h₀.get? s.heap.objs.size with
    | none => rfl
    | some o' => exact absurd (Heap.lt_size (F.keep _ _ q)) (Nat.lt_irrefl _)
  have hz4 : I + 4 < s.heap.objs.size := fresh (I + 4, zipO I .none) (by simp [zfr])
  refine hq s.heap.objs.size g tk u o1' o2' ⟨c1, d1⟩ ⟨c2, d2⟩ fresh F2 ?_
  intro p hp
  simp only [zfr, List.cons_append, List.nil_append, List.mem_cons] at hp
  have D' := D
  rcases hp with rfl | rfl | rfl | rfl | rfl | rfl | hp
  · exact ⟨k2.extBut _ _ (Nat.ne_of_gt hz4) t1, Nat.ne_of_gt hL, fr0⟩
  · exact ⟨z2, (N (I + 4, zipO I .none) (by simp [zfr])).2⟩
  · exact ⟨k2.extBut _ _ (neN (by omega)) (keep _ _ (neN (by omega)) (neN (by omega)) (neN (by omega)) (neN (by omega)) hTI), (N (I + 2, prO (.ref I) (.ref (I + 1))) (by simp [zfr])).2⟩
  · exact ⟨k2.extBut _ _ (neN (by omega)) p1, (N (I + 3, prO a b) (by simp [zfr])).2⟩
  · exact ⟨k2.extBut _ _ (neN (by omega)) e1, g1.2⟩
  · exact ⟨k2.extBut _ _ (neN (by omega)) e2, g2.2⟩
  · obtain ⟨q1, q2, q3, q4, q5⟩ := hI p hp
    have := N p (List.mem_append_right _ hp)
    exact ⟨keep2 _ _ q1 q3 q4 q5 this.1, this.2⟩
theorem next_zip_end {target : PySem.Expr} {env : Env} {body orelse : List Stmt} {Q : Flow → Shared → Prop} {a b : Value} (hh : A.handled = none)
    (F : Fr h₀ L s.heap m) (N : News h₀ L s.heap (zfr I .none a b o1 o2 ++ led)) (hI : ∀ p ∈ led, ZOff I p.1) (h1 : IterS o1 x t k) (hlI : ZOff I l) (hx : x.cps[k]? = none)
    (hq : ∀ h', Fr h₀ L h' m → News h₀ L h' led → wpAny (model prog w) A (execs orelse env) Q E { s with heap := h' }) :
    wpAny (model prog w) A (pyNext (.ref (I + 4))) (ForStep prog w A E env target (.ref (I + 4)) body orelse Q) E s := by
  have D := zapart (I := I) hlI
  have hz : IsZip s.heap (I + 4) (I + 2) (I + 3) .none := (N (I + 4, zipO I .none) (by simp [zfr])).1
  have hTI : IsPair s.heap (I + 2) (.ref I) (.ref (I + 1)) := (N (I + 2, prO (.ref I) (.ref (I + 1))) (by simp [zfr])).1
  have hTO : IsPair s.heap (I + 3) a b := (N (I + 3, prO a b) (by simp [zfr])).1
  have g1 := (N (I, o1) (by simp [zfr]))
  have hT : s.TypeIs (.ref (I + 4)) "zip" := ⟨_, hz, rfl⟩
  unfold pyNext
  refine wpAny_bind (wpAny_attempt (wpAny_callSpecial?_slot (name := Str.ofString "__next__") hT PySem.F.slot_zip_next
    (wpAny_call_entry PySem.F.slot_zip_next hT PySem.F.entry_zip_next (zipS_end hh D hz hTI hTO ⟨o1, g1.1, h1.1, h1.2⟩ hx fun h' e keep he => ?_) (PySem.F.args_zip_next_1 _))))
  obtain ⟨o, ho, hc⟩ := he
  refine wpAny_bind (wpAny_isInstance (T := "StopIteration") (b := true) ⟨o, ho, hc⟩ isSubtype_stop ?_)
  refine wpAny_pure ?_
  refine hq h' (fr_zip F N keep) fun p hp => ?_
  obtain ⟨q1, q2, q3, q4, q5⟩ := hI p hp
  have := N p (List.mem_append_right _ hp)
  exact ⟨keep _ _ q1 q3 q4 q5 this.1, this.2⟩
theorem iter_zip {Q : Value → Shared → Prop} {f0 a b : Value} (N : News h₀ L s.heap (zfr I f0 a b o1 o2 ++ led)) (h : Q (.ref (I + 4)) s) : wpAny (model prog w) A (pyIter (.ref (I + 4))) Q E s :=
  wpAny_pyIter_zip (TI := I + 2) (TO := I + 3) (f0 := f0) (N (I + 4, zipO I f0) (by simp [zfr])).1 h
end
end Mine
end
section
open PySem PySem.W PyProof.Rows
namespace Mine
abbrev Srt (rs : List (Nat × Nat)) : Prop := rs.Pairwise (fun a b => a.1 ≤ b.1)
theorem mem_take_le {α : Type} {p : α → Bool} : ∀ {l : List α} {x : α}, x ∈ l.take (l.takeWhile p).length → p x = true
  | a :: l, x, h => by
    rw [List.takeWhile_cons] at h
    by_cases ha : p a = true
    · rw [if_pos ha, List.length_cons, List.take_succ_cons] at h
      rcases List.mem_cons.mp h with rfl | h
      · exact ha
      · exact mem_take_le h
    · rw [if_neg ha] at h
      simp at h
theorem head_drop {α : Type} {p : α → Bool} : ∀ {l : List α} {x : α} {r : List α}, l.drop (l.takeWhile p).length = x :: r → p x = false
  | [], x, r, h => by simp at h
  | a :: l, x, r, h => by
    rw [List.takeWhile_cons] at h
    by_cases ha : p a = true
    · rw [if_pos ha, List.length_cons, List.drop_succ_cons] at h
      exact head_drop h
    · rw [if_neg ha] at h
      simp at h
      rw [← h.1]
      simpa using ha
theorem ins_length (rs : List (Nat × Nat)) (p : Nat × Nat) : (ins rs p).length = rs.length + 1 := by
  have := tw_le (fun q : Nat × Nat => decide (q.1 < p.1)) rs
  unfold ins
  rw [List.length_append, List.length_cons, List.length_take, List.length_drop]
  unfold lbd
  omega
theorem ins_perm (rs : List (Nat × Nat)) (p : Nat × Nat) : (ins rs p).Perm (p :: rs) := by
  unfold ins
  refine List.perm_middle.trans ?_
  rw [List.take_append_drop]
theorem ins_mem {rs : List (Nat × Nat)} {p q : Nat × Nat} : q ∈ ins rs p ↔ q = p ∨ q ∈ rs := by
  rw [(ins_perm rs p).mem_iff, List.mem_cons]
theorem ins_srt {rs : List (Nat × Nat)} {p : Nat × Nat} (h : Srt rs) : Srt (ins rs p) := by
  unfold ins Srt
  have h' : Srt (rs.take (lbd rs p.1) ++ rs.drop (lbd rs p.1)) := by rw [List.take_append_drop]; exact h
  obtain ⟨h1, h2, h3⟩ := List.pairwise_append.mp h'
  refine List.pairwise_append.mpr ⟨h1, List.pairwise_cons.mpr ⟨fun q hq => ?_, h2⟩, fun a ha b hb => ?_⟩
  · cases e : rs.drop (lbd rs p.1) with
    | nil => rw [e] at hq; cases hq
    | cons x r =>
      have hx : decide (x.1 < p.1) = false := head_drop (p := fun q : Nat × Nat => decide (q.1 < p.1)) e
      have hx' : ¬ x.1 < p.1 := of_decide_eq_false hx
      rw [e] at hq h2
      rcases List.mem_cons.mp hq with rfl | hq
      · omega
      · have := (List.pairwise_cons.mp h2).1 q hq
        omega
  · have hl : a.1 < p.1 := of_decide_eq_true (mem_take_le (p := fun q : Nat × Nat => decide (q.1 < p.1)) ha)
    rcases List.mem_cons.mp hb with rfl | hb
    · omega
    · exact h3 a ha b hb
/-- the queue of these rows -/
def qOf (ps : List (Nat × Nat)) : List (Nat × Nat) := ps.foldl ins []
theorem foldl_ins {q : List (Nat × Nat)} (h : Srt q) : ∀ ps : List (Nat × Nat), Srt (ps.foldl ins q) ∧ (ps.foldl ins q).length = q.length + ps.length ∧ (ps.foldl ins q).Perm (ps ++ q) := by
  intro ps
  induction ps generalizing q with
  | nil => exact ⟨h, rfl, .refl _⟩
  | cons p r ih =>
    obtain ⟨a, b, c⟩ := ih (ins_srt (p := p) h)
    refine ⟨a, ?_, ?_⟩
    · rw [List.foldl_cons, b, ins_length, List.length_cons]; omega
    · rw [List.foldl_cons]
      refine c.trans ?_
      exact ((ins_perm q p).append_left r).trans List.perm_middle
end Mine
end
section
open PySem PySem.W PyProof.Rows
namespace Mine
/-- the marks -/
def marks : List Nat := [97, 98, 99, 100, 101, 102]
theorem abc_cps : (Str.ofString "abcdef").cps = marks.toArray := by decide +kernel
abbrev nums (ns : List Nat) : List Int := ns.map fun n : Nat => (n : Int)
def blank (n : Nat) : Str := ⟨(List.replicate n 32).toArray⟩
theorem blank_ok {n : Nat} (h : n ≤ 5) : MulOk (Str.ofString " ") (n : Int) := by
  have h1 : n = 0 ∨ n = 1 ∨ n = 2 ∨ n = 3 ∨ n = 4 ∨ n = 5 := by omega
  rcases h1 with rfl | rfl | rfl | rfl | rfl | rfl <;> (unfold MulOk; decide +kernel)
theorem blank_mul {n : Nat} (h : n ≤ 5) : Txt.mul (Str.ofString " ") (n : Int) = blank n := by
  have h1 : n = 0 ∨ n = 1 ∨ n = 2 ∨ n = 3 ∨ n = 4 ∨ n = 5 := by omega
  rcases h1 with rfl | rfl | rfl | rfl | rfl | rfl <;> decide +kernel
theorem row_of (x c : Nat) : (blank x ++ Str.ofString ".") ++ (⟨#[c]⟩ : Str) = row x c := by
  have h : Str.ofString "." = ⟨#[46]⟩ := by decide +kernel
  rw [h]
  apply Str.ext'
  apply Array.ext'
  simp [blank, row, Str.cps_append]
theorem news_mid {h₀ h : Heap} {L : Addr} {a b : Led} {p : Addr × Obj} (N : News h₀ L h (a ++ p :: b)) : News h₀ L h (p :: (a ++ b)) :=
  news_of N fun _ hq => List.perm_middle.mem_iff.mpr hq
theorem zfr_ge {I : Nat} {f a b : Value} {o1 o2 : Obj} {p : Addr × Obj} (h : p ∈ zfr I f a b o1 o2) : I ≤ p.1 := by
  simp only [zfr, List.mem_cons, List.not_mem_nil, or_false] at h
  rcases h with rfl | rfl | rfl | rfl | rfl
  · exact Nat.le_add_right I 4
  · exact Nat.le_add_right I 2
  · exact Nat.le_add_right I 3
  · exact Nat.le_refl I
  · exact Nat.le_add_right I 1

theorem allLt_mem {d : Nat} {l : Led} (h : AllLt d l) : ∀ p ∈ l, p.1 < d := by
  induction l with
  | nil => intro p hp; cases hp
  | cons a r ih =>
    intro p hp
    have h' : @LT.lt Nat _ a.1 d ∧ AllLt d r := h
    rcases List.mem_cons.mp hp with rfl | hp
    · exact h'.1
    · exact ih h'.2 p hp
/-- how many rows at the queue's head have no blank -/
def zs (q : List (Nat × Nat)) : Nat := (q.takeWhile fun p => decide (p.1 = 0)).length
def nearOf (q : List (Nat × Nat)) (k : Nat) : Nat := max (zs q) (q.length - k)
/-- a blank off each of the others -/
def dec (p : Nat × Nat) : Nat × Nat := (p.1 - 1, p.2)
abbrev TSt := List (Nat × Nat) × List (Nat × Nat) × List (Nat × Nat)
/-- one turn: the queue, the served, the links -/
def tstep (st : TSt) (t : Nat) : TSt :=
  let i := t % st.1.length
  let one := st.1.getD i (0, 0)
  let q1 := st.1.eraseIdx i
  let others := q1.drop (nearOf q1 one.1)
  ((others.map dec).foldl ins (q1.take (nearOf q1 one.1)), st.2.1 ++ [(one.1 - others.length, one.2)], st.2.2 ++ others.map fun o => (one.2, o.2))
/-- a link's text -/
def pairS (p : Nat × Nat) : Str := if p.1 ≤ p.2 then ⟨#[p.1, p.2]⟩ else ⟨#[p.2, p.1]⟩
theorem zs_eq (q : List (Nat × Nat)) : (q.takeWhile fun p => decide (¬ (2 : Int) < (p.1 : Int) + 2)).length = zs q := by
  unfold zs
  congr 2
  funext p
  exact decide_eq_decide.mpr (by omega)
/-- what holds of the queue -/
structure QOk (q : List (Nat × Nat)) (n : Nat) : Prop where
  srt : Srt q
  len : q.length = n
  max : ∀ p ∈ q, p.1 ≤ 5
theorem QOk.qOf {ws : List Nat} (h : ws.length = 6) (hm : ∀ x ∈ ws, x ≤ 5) : QOk (qOf (ws.zip marks)) 6 := by
  obtain ⟨f1, f2, f3⟩ := foldl_ins (q := []) .nil (ws.zip marks)
  refine ⟨f1, ?_, ?_⟩
  · have : (ws.zip marks).length = 6 := by rw [List.length_zip, h]; rfl
    exact f2.trans (by rw [this]; rfl)
  · intro p hp
    have := f3.mem_iff.mp hp
    simp only [List.append_nil] at this
    exact hm _ (List.of_mem_zip (show (p.1, p.2) ∈ _ from this)).1
theorem eraseIdx_sub {α : Type} (l : List α) (i : Nat) : (l.eraseIdx i).Sublist l := List.eraseIdx_sublist l i
theorem QOk.erase {q : List (Nat × Nat)} {n i : Nat} (h : QOk q (n + 1)) (hi : i < n + 1) : QOk (q.eraseIdx i) n := by
  refine ⟨h.srt.sublist (eraseIdx_sub q i), ?_, fun p hp => h.max p ((eraseIdx_sub q i).subset hp)⟩
  rw [List.length_eraseIdx_of_lt (by rw [h.len]; exact hi), h.len]; rfl
theorem mem_drop_zs {q : List (Nat × Nat)} (h : Srt q) {k : Nat} (hk : zs q ≤ k) {p : Nat × Nat} (hp : p ∈ q.drop k) : 1 ≤ p.1 := by
  have hd : p ∈ q.drop (zs q) := by
    have : q.drop k = (q.drop (zs q)).drop (k - zs q) := by rw [List.drop_drop]; congr 1; omega
    rw [this] at hp
    exact List.mem_of_mem_drop hp
  cases e : q.drop (zs q) with
  | nil => rw [e] at hd; cases hd
  | cons x r =>
    have hx : decide (x.1 = 0) = false := head_drop (p := fun q : Nat × Nat => decide (q.1 = 0)) e
    have hx' := of_decide_eq_false hx
    have hs : Srt (x :: r) := e ▸ h.sublist (List.drop_sublist _ _)
    rw [e] at hd
    rcases List.mem_cons.mp hd with rfl | hd
    · omega
    · have := (List.pairwise_cons.mp hs).1 p hd
      omega
theorem nearOf_le {q : List (Nat × Nat)} {k : Nat} : nearOf q k ≤ q.length := by
  have := tw_le (fun p : Nat × Nat => decide (p.1 = 0)) q
  unfold nearOf zs
  omega
section
variable {prog : Program} {w : World} {A : Around} {E : Value → Shared → Prop} {s : Shared} {h₀ h : Heap} {L D : Addr} {m : Loc} {led led' : Led}
theorem kl_cut_at : ∀ {l : List Value} {k : Nat} {y : Value}, l[k]? = some y → kl_cut l k = some (l.take k, y, l.drop (k + 1))
  | x :: r, 0, y, h => by
    have : x = y := by simpa using h
    subst this
    rfl
  | x :: r, k + 1, y, h => by
    have h' : r[k]? = some y := by simpa using h
    unfold kl_cut
    rw [kl_cut_at h']
    rfl
theorem pop_led {vs : List Value} {n k : Nat} {y : Value} {u : Tok} {Q : Value → Shared → Prop} (F : Fr h₀ L s.heap m) (N : News h₀ L s.heap led) (hy : vs[k]? = some y) (hl : vs.length ≤ 6)
    (U : Upd D (lst vs n) (lst (vs.eraseIdx k) (n + 1)) led led') (hq : ∀ h', Fr h₀ L h' m → News h₀ L h' led' → Q y { s with heap := h' }) : wpAny (model prog w) A (call (.builtin "list.pop") [.ref D, .int (k : Int) u]) Q E s := by
  have hk : k < vs.length := (List.getElem?_eq_some_iff.mp hy).1
  refine kl_popAt (its := vs.toArray) (n := n) (p := vs.take k) (q := vs.drop (k + 1)) F N (fits_of (n := vs.length) (by omega) hl) ?_ (kl_cut_at hy) ?_ (by rw [sizeLine_eq]; simp; omega) hq
  · unfold seqIndex?; simp; omega
  · rw [← List.eraseIdx_eq_take_drop_succ]; exact U
theorem news_swap {p q : Addr × Obj} (N : News h₀ L h (p :: q :: led)) : News h₀ L h (q :: p :: led) :=
  news_of N fun _ hq => (List.Perm.swap p q led).mem_iff.mp hq
end
theorem strs_erase {a : List Value} {x : List Str} (h : StrsAre a x) (i : Nat) : StrsAre (a.eraseIdx i) (x.eraseIdx i) := by
  rw [List.eraseIdx_eq_take_drop_succ, List.eraseIdx_eq_take_drop_succ]
  exact strs_append (strs_take h _) (strs_drop h _)
theorem rws_get {q : List (Nat × Nat)} {i : Nat} {p : Nat × Nat} (h : q[i]? = some p) : (rws q)[i]? = some (row p.1 p.2) := by
  simp [rws, h]
theorem rws_erase (q : List (Nat × Nat)) (i : Nat) : rws (q.eraseIdx i) = (rws q).eraseIdx i := by
  unfold rws
  rw [List.eraseIdx_eq_take_drop_succ, List.eraseIdx_eq_take_drop_succ, List.map_append, List.map_take, List.map_drop]
theorem near_eq {q : List (Nat × Nat)} {n k : Nat} (h : q.length = n) : (if ((n : Nat) : Int) - ((k + 2 : Nat) : Int) + 2 > ((zs q : Nat) : Int) then ((n : Nat) : Int) - ((k + 2 : Nat) : Int) + 2 else ((zs q : Nat) : Int)) = ((nearOf q k : Nat) : Int) := by
  unfold nearOf
  rw [h]
  split <;> omega
theorem pick_from {l : List Value} {k : Nat} (h : k ≤ l.length) : kms_pick l (some (k : Int)) none = l.drop k := by
  unfold kms_pick kms_lo kms_hi
  simp only
  rw [if_neg (by omega), Int.toNat_natCast, Nat.min_eq_left h]
  exact List.take_of_length_le (by rw [List.length_drop]; omega)
theorem pick_upto {l : List Value} {k : Nat} (h : k ≤ l.length) : kms_pick l none (some (k : Int)) = l.take k := by
  unfold kms_pick kms_lo kms_hi
  simp only
  rw [if_neg (by omega), Int.toNat_natCast, Nat.min_eq_left h]
  rfl
theorem row_last (k c : Nat) : Txt.item (row k c) (-1) = ⟨#[c]⟩ := by
  unfold Txt.item Txt.charAt
  have : seqIndex? (-1) (row k c).length = some (k + 1) := by
    rw [row_length]; unfold seqIndex?; simp; omega
  rw [this]
  simp only [row, Option.bind_some, List.getElem?_toArray]
  rw [List.getElem?_append_right (by simp)]
  simp
end Mine
end
section
open PySem PySem.W PySem.Calls PyProof.Rows
namespace Mine
section
variable {prog : Program} {w : World} {A : Around} {E : Value → Shared → Prop} {s : Shared} {h₀ h : Heap} {L D : Addr} {m : Loc} {led led' : Led}
def ltT (a b : Value) : Bool := match a, b with
  | .str x _, .str y _ => decide (x.cps.toList < y.cps.toList)
  | _, _ => false
theorem cmpOf_str (x y : Str) (t u : Tok) : CmpOf prog w A .Lt (fun i v => (#[.str x t, .str y u] : Array Value)[i]? = some v) (fun i j => ltT ((#[.str x t, .str y u] : Array Value).getD i .none) ((#[.str x t, .str y u] : Array Value).getD j .none)) := by
  intro i j vi vj s Q E hi hj h
  have e1 : (#[.str x t, .str y u] : Array Value).getD i .none = vi := by simp [Array.getD_eq_getD_getElem?, hi]
  have e2 : (#[.str x t, .str y u] : Array Value).getD j .none = vj := by simp [Array.getD_eq_getD_getElem?, hj]
  simp only [e1, e2] at h
  have m1 : vi = .str x t ∨ vi = .str y u := by simpa using Array.mem_of_getElem? hi
  have m2 : vj = .str x t ∨ vj = .str y u := by simpa using Array.mem_of_getElem? hj
  rcases m1 with rfl | rfl <;> rcases m2 with rfl | rfl <;> exact lt_str h
theorem min_two_str {x y : Str} {t u : Tok} {Q : Value → Shared → Prop} (hh : A.handled = none) (F : Fr h₀ L s.heap m) (N : News h₀ L s.heap led)
    (hq : ∀ t' h' tk, Fr h₀ L h' m → News h₀ L h' led → Q (.str (if y.cps.toList < x.cps.toList then y else x) t') { s with heap := h', toks := tk }) : wpAny (model prog w) A (call (.builtin "min") [.str x t, .str y u]) Q E s := by
  have hT : (s.heap.push { cls := .type "tuple", data := .seq #[.str x t, .str y u] }).IsTuple s.heap.objs.size #[.str x t, .str y u] := ⟨_, Heap.get?_push_size _ rfl, rfl, 0, rfl⟩
  refine call_min_two (wpAny_pyIter_tuple hT ?_)
  have hsz : (s.heap.push { cls := .type "tuple", data := .seq #[.str x t, .str y u] }).objs.size = s.heap.objs.size + 1 := Heap.size_push ..
  refine ⟨_, [_, s.heap.objs.size], [_], _, _, _, _, rfl, Walks.tuple (A := A.in1) hh _ s.heap.objs.size (by rw [hsz]; exact Nat.ne_of_lt (Nat.lt_succ_self _)) #[.str x t, .str y u],
    ⟨⟨_, Heap.get?_push_size _ rfl, rfl, rfl⟩, hT.push _⟩, fun c hc => ?_, by simp, cmpOf_str x y t u, fun v h' tk hP hk => ?_⟩
  · show c < ((s.heap.push _).push _).objs.size
    rw [Heap.size_push, hsz]
    rcases List.mem_cons.mp hc with rfl | hc
    · rw [hsz]; exact Nat.lt_succ_self _
    · rcases List.mem_cons.mp hc with rfl | hc
      · exact Nat.lt_succ_of_lt (Nat.lt_succ_self _)
      · cases hc
  · have hold : ∀ c o, s.heap.get? c = some o → h'.get? c = some o := fun c o e => by
      refine hk c o (fun hm => ?_) (Heap.get?_push_of_some _ (Heap.get?_push_of_some _ e))
      rcases List.mem_cons.mp hm with e1 | hm
      · have := Heap.lt_size e; rw [e1, hsz] at this; exact Nat.lt_irrefl _ (Nat.lt_of_succ_lt this)
      · cases hm
    have q := hq
    by_cases c : y.cps.toList < x.cps.toList
    · have hv : v = .str y u := by
        have : ltT (.str y u) (.str x t) = true := decide_eq_true c
        simp [argBest, this] at hP
        exact hP.symm
      have := hq u h' tk (F.grownK hold) (N.grown hold)
      rw [if_pos c] at this
      rw [hv]; exact this
    · have hv : v = .str x t := by
        have : ltT (.str y u) (.str x t) = false := decide_eq_false c
        simp [argBest, this] at hP
        exact hP.symm
      have := hq t h' tk (F.grownK hold) (N.grown hold)
      rw [if_neg c] at this
      rw [hv]; exact this
end
theorem two_fit (a b : Nat) : Str.length ⟨#[a]⟩ + Str.length ⟨#[b]⟩ ≤ sizeLine := by rw [sizeLine_eq]; simp [Str.length]
def two (a b : Nat) : Str := ⟨#[a, b]⟩
theorem two_eq (a b : Nat) : (⟨#[a]⟩ : Str) ++ (⟨#[b]⟩ : Str) = two a b := rfl
theorem pair_min (a b : Nat) : (if (two b a).cps.toList < (two a b).cps.toList then two b a else two a b) = pairS (a, b) := by
  unfold pairS two
  have : ([b, a] : List Nat) < [a, b] ↔ b < a := by
    simp [List.cons_lt_cons_iff]
    omega
  simp only [this]
  by_cases h : a ≤ b
  · rw [if_neg (by omega), if_pos h]
  · rw [if_pos (by omega), if_neg h]
section
variable {prog : Program} {w : World} {A : Around} {E : Value → Shared → Prop} {s : Shared} {h₀ h : Heap} {L D : Addr} {m : Loc} {led led' : Led} {Q : Value → Shared → Prop}
theorem last_row {value slice : PySem.Expr} {k c : Nat} {t u : Tok} (h : Q (.str ⟨#[c]⟩ s.toks) { s with toks := s.toks + 1 })
    (hs : subscripted slice false (.str (row k c) t) (.int (-1) u) = operate [.str (row k c) t, .int (-1) u] (getItem (.str (row k c) t) (.int (-1) u)) := by with_unfolding_all rfl)
    (ht : ∀ r, letTemporaryGo value (.str (row k c) t) r = pure () := by intro _; with_unfolding_all rfl) :
    wpAny (model prog w) A (subscriptTail value slice (.str (row k c) t) (.int (-1) u)) Q E s :=
  item_str (by decide +kernel) (by rw [row_length]; omega) (by rw [row_length]; omega) (fun _ => by rw [row_last]; exact h) hs ht
theorem len_row {k c : Nat} {t : Tok} (hk : k ≤ 5) (h : Q (.int ((k + 2 : Nat) : Int) (s.toks + 1)) { s with toks := s.toks + 1 + 1 }) : wpAny (model prog w) A (call (.builtin "len") [.str (row k c) t]) Q E s :=
  len_str (by rw [row_length]; omega) (by rw [row_length]; exact h)
theorem add_two {a b : Nat} {t u : Tok} (h : ∀ t' tk, Q (.str (two a b) t') { s with toks := tk }) : wpAny (model prog w) A (binaryOp .Add (.str ⟨#[a]⟩ t) (.str ⟨#[b]⟩ u)) Q E s :=
  PyProof.Rows.add_str h (two_fit a b)
theorem min_pair {a b : Nat} {t u : Tok} (hh : A.handled = none) (F : Fr h₀ L s.heap m) (N : News h₀ L s.heap led)
    (hq : ∀ t' h' tk, Fr h₀ L h' m → News h₀ L h' led → Q (.str (pairS (a, b)) t') { s with heap := h', toks := tk }) : wpAny (model prog w) A (call (.builtin "min") [.str (two a b) t, .str (two b a) u]) Q E s :=
  min_two_str hh F N fun t' h' tk F' N' => by rw [pair_min]; exact hq t' h' tk F' N'
theorem len_rows {q : Addr} {vs : List Value} {rs : List (Nat × Nat)} {n k : Nat} (N : News h₀ L s.heap led) (hm : (q, lst vs n) ∈ led) (hs : StrsAre vs (rws rs)) (hl : rs.length = k) (hk : k ≤ 100)
    (h : Q (.int (k : Int) (s.toks + 1)) { s with toks := s.toks + 1 + 1 }) : wpAny (model prog w) A (call (.builtin "len") [.ref q]) Q E s := by
  refine len_strsA (News.isList N hm) hs (by rw [List.length_map]; omega) ?_
  rw [List.length_map, hl]
  exact h
theorem append_led {vs : List Value} {n : Nat} {x : Value} (F : Fr h₀ L s.heap m) (N : News h₀ L s.heap led) (U : Upd D (lst vs n) (lst (vs ++ [x]) (n + 1)) led led') (hl : vs.length ≤ 1000)
    (hq : ∀ h', Fr h₀ L h' m → News h₀ L h' led' → Q .none { s with heap := h' }) : wpAny (model prog w) A (call (.builtin "list.append") [.ref D, x]) Q E s :=
  append_K (its := vs.toArray) (n := n) F N (by rw [List.push_toArray]; exact U) hq (by rw [List.size_toArray, sizeLine_eq]; omega)
end
theorem cur_ok {q1 oth : List (Nat × Nat)} {n near i : Nat} (hQ : QOk q1 n) (hn : n ≤ 5) (ho : q1.drop near = oth) :
    Srt (((oth.take i).map dec).foldl ins (q1.take near)) ∧ (((oth.take i).map dec).foldl ins (q1.take near)).length ≤ 6 ∧ ∀ p ∈ ((oth.take i).map dec).foldl ins (q1.take near), p.1 ≤ 5 := by
  obtain ⟨a, b, c⟩ := foldl_ins (q := q1.take near) (hQ.srt.sublist (List.take_sublist _ _)) ((oth.take i).map dec)
  refine ⟨a, ?_, fun p hp => ?_⟩
  · rw [b, List.length_map, List.length_take, List.length_take, ← ho, List.length_drop, hQ.len]; omega
  · rcases List.mem_append.mp (c.mem_iff.mp hp) with h | h
    · obtain ⟨r, hr, rfl⟩ := List.mem_map.mp h
      have : r ∈ q1 := List.mem_of_mem_drop (ho ▸ List.mem_of_mem_take hr)
      have := hQ.max r this
      unfold dec
      dsimp only
      omega
    · exact hQ.max p (List.mem_of_mem_take h)
theorem strs_snoc {a : List Value} {x : List Str} {y : Str} {t : Tok} (h : StrsAre a x) : StrsAre (a ++ [.str y t]) (x ++ [y]) := strs_append h (.cons _ _ .nil)
theorem forStep_end {prog : Program} {w : World} {A : Around} {E : Value → Shared → Prop} {s : Shared} {env : Env} {target : PySem.Expr} {it : Value} {body orelse : List Stmt} {Q : Flow → Shared → Prop}
    (h : wpAny (model prog w) A (execs orelse env) Q E s) : ForStep prog w A E env target it body orelse Q none s := h
theorem tstep_eq {st : TSt} {x n : Nat} {one : Nat × Nat} {q1 oth : List (Nat × Nat)} (h1 : st.1.length = n) (hone : st.1[x % n]? = some one) (hq : st.1.eraseIdx (x % n) = q1) (ho : q1.drop (nearOf q1 one.1) = oth) :
    tstep st x = ((oth.map dec).foldl ins (q1.take (nearOf q1 one.1)), st.2.1 ++ [(one.1 - oth.length, one.2)], st.2.2 ++ oth.map fun o => (one.2, o.2)) := by
  unfold tstep
  have e : st.1.getD (x % n) (0, 0) = one := by simp [List.getD, hone]
  simp only [h1, hq, e, ho]
theorem new_ok {q1 oth : List (Nat × Nat)} {n near : Nat} (hQ : QOk q1 n) (hn : n ≤ 5) (hle : near ≤ q1.length) (ho : q1.drop near = oth) : QOk ((oth.map dec).foldl ins (q1.take near)) n := by
  obtain ⟨a, _, c⟩ := cur_ok (i := oth.length) hQ hn ho
  rw [List.take_length] at a c
  refine ⟨a, ?_, c⟩
  obtain ⟨_, b, _⟩ := foldl_ins (q := q1.take near) (hQ.srt.sublist (List.take_sublist _ _)) (oth.map dec)
  rw [b, List.length_map, List.length_take, ← ho, List.length_drop, hQ.len]
  have := hQ.len
  omega
end Mine
end
section
open PySem PySem.W PySem.Calls PyProof.Rows
set_option maxRecDepth 100000
namespace Mine
/-- sorted by text keys: what comes out -/
def SOut (ks : List Str) (vs out : List Value) : Prop :=
  ∃ ps : List (Str × Value), ps.Perm (ks.zip vs) ∧ out = ps.map Prod.snd ∧ ps.Pairwise fun p q => ¬ q.1.cps.toList < p.1.cps.toList
theorem keys_zip {keys : Array Value} {vs : List Value} {ks : List Str} (hk : StrsAre keys.toList ks) : KeysOf strKind (keys.zip vs.toArray) := by
  intro p hp
  rw [ksk_zip] at hp
  obtain ⟨x, y⟩ := p
  obtain ⟨s, t, e⟩ := hk.all _ (List.of_mem_zip hp).1
  exact ⟨s.cps.toList, by rw [show x = _ from e]⟩
theorem kind_strs {keys : Array Value} {ks : List Str} (hk : StrsAre keys.toList ks) (h2 : 2 ≤ keys.size) : keyKind' keys = pure oneType' := by
  obtain ⟨v₁, v₂, rest, e⟩ : ∃ v₁ v₂ rest, keys.toList = v₁ :: v₂ :: rest := by
    have hl : 2 ≤ keys.toList.length := by rw [Array.length_toList]; exact h2
    match q : keys.toList with
    | [] => rw [q] at hl; simp at hl
    | [_] => rw [q] at hl; simp at hl
    | v₁ :: v₂ :: rest => exact ⟨v₁, v₂, rest, rfl⟩
  have ek : keys = (v₁ :: v₂ :: rest).toArray := by rw [← e, Array.toArray_toList]
  rw [e] at hk
  rw [ek]
  exact keyKind_strs hk
theorem sout_of {keys : Array Value} {vs : List Value} {ks : List Str} (hk : StrsAre keys.toList ks) {xs : Array Keyed} (hp : xs.Perm (keys.zip vs.toArray)) (hs : SortedToK strKind xs (keys.zip vs.toArray).size) :
    SOut ks vs (xs.map (·.2)).toList := by
  have hl : xs.toList.Perm (keys.toList.zip vs) := by rw [← ksk_zip]; exact Array.perm_iff_toList_perm.mp hp
  have hmem : ∀ p ∈ xs.toList, ∃ x t, p.1 = .str x t := fun p hp' => hk.all _ (List.of_mem_zip (show (p.1, p.2) ∈ _ from hl.mem_iff.mp hp')).1
  refine ⟨xs.toList.map (fun p : Keyed => (strOf p.1, p.2)), ?_, ?_, ?_⟩
  · have e2 : (keys.toList.zip vs).map (fun p : Keyed => (strOf p.1, p.2)) = ks.zip vs := by
      rw [← hk.strs, List.zip_map_left]
      exact List.map_congr_left fun ⟨x, y⟩ _ => rfl
    rw [← e2]
    exact hl.map _
  · rw [Array.toList_map, List.map_map]
    rfl
  · rw [List.pairwise_iff_getElem]
    intro i j hi hj hij
    have hi' : i < xs.size := by simpa using hi
    have hj' : j < xs.size := by simpa using hj
    have h1 := hs i j (Nat.le_of_lt hij) (by rw [← hp.size_eq]; exact hj')
    obtain ⟨x, t, ex⟩ := hmem xs[i] (by simp)
    obtain ⟨y, u, ey⟩ := hmem xs[j] (by simp)
    rw [KK_str hi' (x := x) (t := t) (q := xs[i].2) (Prod.ext ex rfl), KK_str hj' (x := y) (t := u) (q := xs[j].2) (Prod.ext ey rfl)] at h1
    change decide (y.cps.toList < x.cps.toList) = false at h1
    simp only [List.getElem_map, Array.getElem_toList]
    rw [show strOf xs[i].1 = x by rw [ex]; rfl, show strOf xs[j].1 = y by rw [ey]; rfl]
    exact of_decide_eq_false h1
theorem strs_snoc' {n : Str} {t : Tok} {vs : List Value} {ns : List Str} (h : StrsAre vs ns) : StrsAre (vs ++ [.str n t]) (ns ++ [n]) := strs_snoc h

section
variable {prog : Program} {w : World} {A : Around} {E : Value → Shared → Prop} {s : Shared} {h₀ : Heap} {L : Addr} {m : Loc} {news : Led} {a kS : Addr} {vs : List Value} {ks : List Str} {keys : Array Value} {e e1 : Nat} {P : PySem.Fin → Shared → Prop}
set_option maxHeartbeats 2000000 in
theorem tail_str {st : SortSt} (F : Fr h₀ L s.heap m) (N : News h₀ L s.heap (news ++ [(kS, seqObj "list" keys e), (a, seqObj "list" #[] e1)])) (hka : kS ≠ a) (hnk : ∀ p ∈ news, p.1 ≠ kS) (hna : ∀ p ∈ news, p.1 ≠ a)
    (hk : StrsAre keys.toList ks) (hlen : ks.length = vs.length) (h64 : vs.length < 64) (hp : (arrOf st).Perm (keys.zip vs.toArray)) (hs : SortedToK strKind (arrOf st) (keys.zip vs.toArray).size) (hfl : failedOf st = none)
    (h : ∀ h' tk out c, Fr h₀ L h' m → News h₀ L h' ((a, seqObj "list" out c) :: news) → SOut ks vs out.toList → P (.done (.ret .none)) { s with heap := h', toks := tk }) :
    wpAny (model prog w) A (ksk_tail a false e1 (.ref kS) st) P E s := by
  have nk := N (kS, seqObj "list" keys e) (List.mem_append_right _ (.head _))
  have na := N (a, seqObj "list" #[] e1) (List.mem_append_right _ (.tail _ (.head _)))
  have Nn : News h₀ L s.heap news := fun p hp => N p (List.mem_append_left _ hp)
  have hsz : keys.size = vs.length := by
    have h1 := hk.len_eq
    rw [Array.length_toList] at h1
    omega
  have hsz2 : (arrOf st).size = vs.length := by rw [hp.size_eq, Array.size_zip, hsz, List.size_toArray, Nat.min_self]
  have hout : ((arrOf st).map (·.2)).size = vs.length := by rw [Array.size_map]; exact hsz2
  have s1 := Heap.SameBut.update s.heap kS (Obj.mapSeq fun _ => (#[] : Array Value))
  have na1 : (s.heap.update kS (Obj.mapSeq fun _ => (#[] : Array Value))).get? a = some (seqObj "list" #[] e1) := (s1.2 a hka.symm).trans na.1
  have s2 := Heap.SameBut.update (s.heap.update kS (Obj.mapSeq fun _ => (#[] : Array Value))) a (Obj.mapSeq fun _ => (arrOf st).map (·.2))
  obtain ⟨c2, hc2⟩ : ∃ c2, ((s.heap.update kS (Obj.mapSeq fun _ => (#[] : Array Value))).update a (Obj.mapSeq fun _ => (arrOf st).map (·.2))).get? a = some (seqObj "list" ((arrOf st).map (·.2)) c2) :=
    ⟨_, get?_update_seq na1 fun _ => (arrOf st).map (·.2)⟩
  have N2 := ksk_news (ksk_news Nn s1 hnk) s2 hna
  unfold ksk_tail
  try dsimp only
  refine wpAny_bind (listUpdate_at nk.1 rfl ?_ (by rw [hsz, sizeLine_eq]; omega) (Nat.zero_le _))
  refine wpAny_bind (wpAny_letGo ?_)
  refine wpAny_bind (seqEpoch_at na1 rfl ?_)
  refine wpAny_bind (listUpdate_at na1 rfl ?_ (Nat.zero_le _) (Nat.le_trans (Nat.le_of_eq hout) (by rw [sizeLine_eq]; omega)))
  rw [hfl]
  simp only [bne_self_eq_false, Bool.false_eq_true, if_false]
  refine wpAny_pure (h _ _ _ c2 (ksk_fr (ksk_fr F s1 nk.2.1 nk.2.2) s2 na.2.1 na.2.2) (fun p hp => ?_) (sout_of hk hp hs))
  rcases List.mem_cons.mp hp with rfl | hp
  · exact ⟨hc2, na.2⟩
  · exact N2 p hp
theorem end_str (F : Fr h₀ L s.heap m) (N : News h₀ L s.heap (news ++ [(kS, seqObj "list" keys e), (a, seqObj "list" #[] e1)])) (hka : kS ≠ a) (hnk : ∀ p ∈ news, p.1 ≠ kS) (hna : ∀ p ∈ news, p.1 ≠ a)
    (hk : StrsAre keys.toList ks) (hlen : ks.length = vs.length) (h2 : 2 ≤ vs.length) (h64 : vs.length < 64)
    (h : ∀ h' tk out c, Fr h₀ L h' m → News h₀ L h' ((a, seqObj "list" out c) :: news) → SOut ks vs out.toList → P (.done (.ret .none)) { s with heap := h', toks := tk }) :
    wpAny (model prog w) A (ksk_end a false vs.toArray e1 (.ref kS) keys) P E s := by
  have hsz : keys.size = vs.length := by
    have h1 := hk.len_eq
    rw [Array.length_toList] at h1
    omega
  have hzs : (keys.zip vs.toArray).size = vs.length := by rw [Array.size_zip, hsz, List.size_toArray, Nat.min_self]
  unfold ksk_end
  try dsimp only
  simp only [Bool.false_eq_true, if_false]
  have h2' : ¬ vs.toArray.size < 2 := by rw [List.size_toArray]; omega
  rw [if_neg h2', if_neg h2']
  rw [kind_strs hk (by rw [hsz]; omega)]
  refine wpAny_bind (wpAny_pure ?_)
  refine wpAny_bind (wpAny_mono (wpS_sortRunsK (κ := strKind) (a₀ := keys.zip vs.toArray) (st := SortSt.mk' oneType' (keys.zip vs.toArray) #[] 7 none)
    (Q := fun _ st' => (arrOf st').Perm (keys.zip vs.toArray) ∧ failedOf st' = none ∧ SortedToK strKind (arrOf st') (keys.zip vs.toArray).size)
    strKind_oneLt (keys_zip hk) ⟨Array.Perm.refl _, rfl, rfl, rfl⟩ (by rw [hzs]; omega) (by rw [hzs]; exact h64) fun st' a1 a2 a3 => ⟨a1, a2, a3⟩) ?_ fun _ _ e => e)
  rintro ⟨⟨⟩, st'⟩ s' ⟨rfl, hp, hf, hs⟩
  try dsimp only
  exact tail_str F N hka hnk hna hk hlen h64 hp hs hf h
/-- what a key's call must give -/
def KeyEnd (h₀ : Heap) (L : Addr) (m : Loc) (need : Led) (k : Str) (s₁ : Shared) (v : Value) (s₂ : Shared) : Prop :=
  ∃ h' tk t', s₂ = { s₁ with heap := h', toks := tk } ∧ v = .str k t' ∧ Fr h₀ L h' m ∧ News h₀ L h' need
theorem rest_str {f : Value} (F : Fr h₀ L s.heap m) (N : News h₀ L s.heap (news ++ [(kS, seqObj "list" #[] 0), (a, seqObj "list" #[] e1)])) (hka : kS ≠ a) (hnk : ∀ p ∈ news, p.1 ≠ kS) (hna : ∀ p ∈ news, p.1 ≠ a)
    (hlen : ks.length = vs.length) (h2 : 2 ≤ vs.length) (h64 : vs.length < 64)
    (turn : ∀ (i : Nat) (v : Value) (k : Str), vs[i]? = some v → ks[i]? = some k → ∀ (h : Heap) (tk : Nat) (own : Led), Fr h₀ L h m → News h₀ L h (news ++ own) →
      wpAny (model prog w) A (call f [v]) (KeyEnd h₀ L m (news ++ own) k { s with heap := h, toks := tk }) (fun _ _ => False) { s with heap := h, toks := tk })
    (h : ∀ h' tk out c, Fr h₀ L h' m → News h₀ L h' ((a, seqObj "list" out c) :: news) → SOut ks vs out.toList → P (.done (.ret .none)) { s with heap := h', toks := tk }) :
    wpAny (model prog w) A (ksk_rest a f false vs.toArray e1 (.ref kS)) P E s := by
  unfold ksk_rest
  refine wpAny_bind (wpAny_rule ?_)
  rw [List.forIn_toArray]
  refine wpAny_bind (ksk_fold (fun i s' => ∃ h' tk kA e, s' = { s with heap := h', toks := tk } ∧ Fr h₀ L h' m ∧ News h₀ L h' (news ++ [(kS, seqObj "list" kA e), (a, seqObj "list" #[] e1)]) ∧ StrsAre kA.toList (ks.take i)) vs 0 s
    ⟨s.heap, s.toks, #[], 0, rfl, F, N, by simpa using StrsAre.nil⟩ ?step ?done)
  case step =>
    rintro j x s' hx ⟨h', tk, kA, e, rfl, F', N', hk⟩
    simp only [Nat.zero_add] at hk ⊢
    have hj : j < vs.length := (List.getElem?_eq_some_iff.mp hx).1
    obtain ⟨k, hkj⟩ : ∃ k, ks[j]? = some k := ⟨_, List.getElem?_eq_getElem (by omega)⟩
    have hz : kA.size ≤ vs.length := by
      have h1 := hk.len_eq
      rw [Array.length_toList, List.length_take] at h1
      omega
    refine wpAny_bind (wpAny_attempt (wpAny_mono (turn j x k hx hkj h' tk _ F' N') (fun v s'' he => ?_) fun _ _ hF => hF.elim))
    obtain ⟨g, tk2, t2, rfl, rfl, F2, N2⟩ := he
    try dsimp only
    have nk := N2 (kS, seqObj "list" kA e) (List.mem_append_right _ (.head _))
    have na := N2 (a, seqObj "list" #[] e1) (List.mem_append_right _ (.tail _ (.head _)))
    have s1 := Heap.SameBut.update g kS (Obj.mapSeq (·.push (.str k t2)))
    obtain ⟨c2, hc2⟩ : ∃ c2, (g.update kS (Obj.mapSeq (·.push (.str k t2)))).get? kS = some (seqObj "list" (kA.push (.str k t2)) c2) := ⟨_, get?_update_seq nk.1 (·.push (.str k t2))⟩
    have ek : ks.take (j + 1) = ks.take j ++ [k] := by rw [List.take_add_one, hkj]; simp
    have ea : (kA.push (Value.str k t2)).toList = kA.toList ++ [Value.str k t2] := by simp
    refine wpAny_bind (listUpdate_at nk.1 rfl ?_ (by rw [sizeLine_eq]; omega) (Nat.le_trans (Nat.le_of_eq (Array.size_push ..)) (by rw [sizeLine_eq]; omega)))
    refine wpAny_pure ⟨rfl, _, _, kA.push (.str k t2), c2, rfl, ksk_fr F2 s1 nk.2.1 nk.2.2, fun p hp => ?_, by rw [ea, ek]; exact strs_snoc' hk⟩
    rcases List.mem_append.mp hp with hp | hp
    · exact ksk_news (fun q hq => N2 q (List.mem_append_left _ hq)) s1 hnk p hp
    · rcases List.mem_cons.mp hp with rfl | hp
      · exact ⟨hc2, nk.2⟩
      · rw [List.mem_singleton.mp hp]
        exact ⟨(s1.2 a hka.symm).trans na.1, na.2⟩
  case done =>
    rintro s' ⟨h', tk, kA, e, rfl, F', N', hk⟩
    have hk' : StrsAre kA.toList ks := by
      have e3 : ks.take (0 + vs.length) = ks := List.take_of_length_le (by omega)
      rw [e3] at hk
      exact hk
    have nk := N' (kS, seqObj "list" kA e) (List.mem_append_right _ (.head _))
    try dsimp only
    refine wpAny_bind (listItems_at nk.1 rfl ?_)
    exact end_str F' N' hka hnk hna hk' hlen h2 h64 fun h3 tk3 out c F3 N3 k3 => h h3 tk3 out c F3 N3 k3
theorem sort_str {f : Value} {n : Nat} (F : Fr h₀ L s.heap m) (N : News h₀ L s.heap news) (ho : s.heap.get? a = some (seqObj "list" vs.toArray n)) (haL : a ≠ L) (ha0 : h₀.get? a = none) (hna : ∀ p ∈ news, p.1 ≠ a)
    (hlen : ks.length = vs.length) (h2 : 2 ≤ vs.length) (h64 : vs.length < 64)
    (turn : ∀ (i : Nat) (v : Value) (k : Str), vs[i]? = some v → ks[i]? = some k → ∀ (h : Heap) (tk : Nat) (own : Led), Fr h₀ L h m → News h₀ L h (news ++ own) →
      wpAny (model prog w) A (call f [v]) (KeyEnd h₀ L m (news ++ own) k { s with heap := h, toks := tk }) (fun _ _ => False) { s with heap := h, toks := tk })
    (h : ∀ h' tk out c, Fr h₀ L h' m → News h₀ L h' ((a, seqObj "list" out c) :: news) → SOut ks vs out.toList → P (.done (.ret .none)) { s with heap := h', toks := tk }) :
    wpAny (model prog w) A (ksk_tree a f false) P E s := by
  have ha : a < s.heap.objs.size := Heap.lt_size ho
  have s1 := Heap.SameBut.update s.heap a (Obj.mapSeq fun _ => (#[] : Array Value))
  obtain ⟨e1, ho1⟩ : ∃ e1, (s.heap.update a (Obj.mapSeq fun _ => (#[] : Array Value))).get? a = some (seqObj "list" #[] e1) := ⟨_, get?_update_seq ho fun _ => #[]⟩
  have F1 := ksk_fr F s1 haL ha0
  have N1 := ksk_news N s1 hna
  have hkS : ((s.heap.update a (Obj.mapSeq fun _ => (#[] : Array Value))).push (seqObj "tuple" vs.toArray 0)).objs.size = s.heap.objs.size + 1 := by rw [size_push', Heap.size_update]
  have hLk : L < ((s.heap.update a (Obj.mapSeq fun _ => (#[] : Array Value))).push (seqObj "tuple" vs.toArray 0)).objs.size := (F1.push _).ns.lt
  unfold ksk_tree
  refine wpAny_bind (listItems_at ho rfl ?_)
  refine wpAny_bind (listUpdate_at ho rfl ?_ (by rw [List.size_toArray, sizeLine_eq]; omega) (Nat.zero_le _))
  refine wpAny_bind (seqEpoch_at ho1 rfl ?_)
  refine wpAny_bind (wpAny_newTuple ?_ (by show vs.length ≤ _; rw [sizeLine_eq]; omega))
  refine wpAny_bind (wpAny_newList ?_ (Nat.zero_le _))
  refine wpAny_holding ?_
  refine rest_str (s := { s with heap := ((s.heap.update a (Obj.mapSeq fun _ => (#[] : Array Value))).push (seqObj "tuple" vs.toArray 0)).push (seqObj "list" #[] 0) }) (kS := ((s.heap.update a (Obj.mapSeq fun _ => (#[] : Array Value))).push (seqObj "tuple" vs.toArray 0)).objs.size)
    ((F1.push _).push _) (fun p hp => ?_) (by rw [hkS]; exact Nat.ne_of_gt (Nat.lt_succ_of_lt ha)) (fun p hp => by rw [hkS]; exact Nat.ne_of_lt (Nat.lt_succ_of_lt (Heap.lt_size (N p hp).1))) hna hlen h2 h64 turn h
  rcases List.mem_append.mp hp with hp | hp
  · exact ⟨Heap.get?_push_of_some _ (Heap.get?_push_of_some _ (N1 p hp).1), (N1 p hp).2⟩
  · rcases List.mem_cons.mp hp with rfl | hp
    · exact ⟨Heap.get?_push_size _ rfl, Nat.ne_of_gt hLk, Heap.get?_none_of_le (Nat.le_trans F.above (Nat.le_of_lt hLk))⟩
    · rw [List.mem_singleton.mp hp]
      exact ⟨Heap.get?_push_of_some _ (Heap.get?_push_of_some _ ho1), haL, ha0⟩
end

section
variable {prog : Program} {w : World} {A : Around} {E : Value → Shared → Prop} {s : Shared} {h₀ : Heap} {L l : Addr} {m : Loc} {news : Led} {vs : List Value} {ks : List Str} {Q : Value → Shared → Prop}
theorem sorted_key_str {f : Value} {kw : List (Str × Value)} (F : Fr h₀ L s.heap m) (N : News h₀ L s.heap news) (hl : s.heap.IsList l vs.toArray) (hlen : ks.length = vs.length) (h2 : 2 ≤ vs.length) (h64 : vs.length < 64)
    (ha1 : argsOk "sorted" ⟨[.ref l], kw⟩) (ha2 : ∀ x, argsOk "list.sort" ⟨[.ref x], kw⟩) (ht : ∀ x, Builtin.«list.sort» ⟨[.ref x], kw⟩ = ksk_tree x f false)
    (turn : ∀ (i : Nat) (v : Value) (k : Str), vs[i]? = some v → ks[i]? = some k → ∀ (h : Heap) (tk : Nat) (own : Led), Fr h₀ L h m → News h₀ L h (news ++ own) →
      wpAny (model prog w) A.in1.in1 (call f [v]) (KeyEnd h₀ L m (news ++ own) k { s with heap := h, toks := tk }) (fun _ _ => False) { s with heap := h, toks := tk })
    (h : ∀ D h' tk out c, Fr h₀ L h' m → News h₀ L h' ((D, seqObj "list" out c) :: news) → (∀ q ∈ news, q.1 < D) → SOut ks vs out.toList → Q (.ref D) { s with heap := h', toks := tk }) :
    wpAny (model prog w) A (call (.builtin "sorted") [.ref l] kw) Q E s := by
  refine call_function_entry_kw kind_sorted plain_sorted entry_sorted ha1 ?_
  unfold Builtin.«sorted»
  refine wpAny_bind (m := checkCount "sorted" 1 1 _) (wpAny_pure ?_)
  refine wpAny_bind (collect_list hl ?_ (by rw [sizeLine_eq]; omega))
  refine wpAny_bind (wpAny_newList ?_ (by rw [sizeLine_eq]; omega))
  have hsz : ((s.heap.push (seqObj "list" #[] 0)).update s.heap.objs.size (Obj.mapSeq (· ++ vs.toArray))).objs.size = s.heap.objs.size + 1 := by
    rw [Heap.size_update, size_push']
  have hoL : (((s.heap.push (seqObj "list" #[] 0)).update s.heap.objs.size (Obj.mapSeq (· ++ vs.toArray))).push (seqObj "list" vs.toArray 0)).get? (s.heap.objs.size + 1) = some (seqObj "list" vs.toArray 0) := by
    rw [← hsz]; exact Heap.get?_push_size _ rfl
  have keep : ∀ b o, s.heap.get? b = some o → (((s.heap.push (seqObj "list" #[] 0)).update s.heap.objs.size (Obj.mapSeq (· ++ vs.toArray))).push (seqObj "list" vs.toArray 0)).get? b = some o := fun b o q => by
    have hlt : b < s.heap.objs.size := Heap.lt_size q
    rw [Heap.get?_push_ne _ _ _ (by rw [hsz]; exact Nat.ne_of_lt (Nat.lt_succ_of_lt hlt)), Heap.get?_update_ne _ _ _ _ (Nat.ne_of_lt hlt), Heap.get?_push_ne _ _ _ (Nat.ne_of_lt hlt)]
    exact q
  have hL : L < s.heap.objs.size := F.ns.lt
  show wpAny _ _ _ _ _ { s with heap := ((s.heap.push (seqObj "list" #[] 0)).update s.heap.objs.size (Obj.mapSeq (· ++ vs.toArray))).push (seqObj "list" vs.toArray 0) }
  rw [hsz]
  refine wpAny_bind (wpAny_holding (wpAny_call_entry_kw slot_list_sort ⟨_, hoL, rfl⟩ entry_list_sort ?body (ha2 _)))
  case body =>
    have ht' := ht (s.heap.objs.size + 1)
    show wpAny (model prog w) A.in1.in1 (Builtin.«list.sort» ⟨[.ref (s.heap.objs.size + 1)], kw⟩) _ _ _
    rw [ht']
    refine sort_str (s := { s with heap := ((s.heap.push (seqObj "list" #[] 0)).update s.heap.objs.size (Obj.mapSeq (· ++ vs.toArray))).push (seqObj "list" vs.toArray 0) })
      (F.kept keep) (N.grown keep) hoL (Nat.ne_of_gt (Nat.lt_succ_of_lt hL)) (Heap.get?_none_of_le (Nat.le_trans F.above (Nat.le_succ_of_le (Nat.le_of_lt hL))))
      (fun p hp => Nat.ne_of_lt (Nat.lt_succ_of_lt (Heap.lt_size (N p hp).1))) hlen h2 h64 turn fun h' tk out c F' N' k' => ⟨_, rfl, ?_⟩
    exact wpAny_pure ⟨_, rfl, h _ h' tk out c F' N' (fun q hq => Nat.lt_succ_of_lt (Heap.lt_size (N q hq).1)) k'⟩
end
end Mine
end
section
open PySem PySem.W PyProof.Rows
set_option pp.deepTerms false
set_option pp.deepTerms.threshold 3
set_option pp.maxSteps 3000
namespace Mine
local macro_rules | `(tactic| walk_at "st") => `(tactic| ((with_reducible show wpAny _ _ _ _ _ _); (fail_if_success (with_reducible show wpAny _ _ (exec (Stmt.While _ _ _ _) _) _ _ _)); (fail_if_success (with_reducible show wpAny _ _ (exec (Stmt.For _ _ _ _ _) _) _ _ _)); (fail_if_success (with_reducible show wpAny _ _ (call (Value.ref _) _ _) _ _ _)); first | (k_unfold; (try dsimp only)) | walk1 | (dsimp only; walk1)))
local macro_rules | `(tactic| walk_at "go") => `(tactic| repeat' walk_at "st")
local macro_rules | `(tactic| walk_at "fr") => `(tactic| (refine' fr_fin ?frl ?frr; (case frl => repeat' (first | with_reducible apply B_cons' | exact rfl)); (case frr => repeat' (first | exact trivial | refine And.intro (by with_unfolding_all rfl) ?_))))
local macro_rules | `(tactic| walk_at "fs") => `(tactic| (unfold fitsSsize; simp; omega))
local macro_rules | `(tactic| walk_at "ret") => `(tactic| (refine ⟨_, _, _, _, rfl, by assumption, by assumption, ?_⟩))
local macro_rules | `(tactic| walk_at "sj") => `(tactic| ((fail_if_success (with_reducible show wpAny _ _ (subscriptTail _ (Expr.Slice _ _ _ _) (Value.ref _) _) _ _ _)); (fail_if_success (with_reducible show wpAny _ _ (call (Value.builtin "len") [Value.ref _]) _ _ _)); (fail_if_success (with_reducible show wpAny _ _ (call (Value.builtin "list.pop") _) _ _ _)); (fail_if_success (with_reducible show wpAny _ _ (call (Value.builtin "list.insert") _) _ _ _)); (fail_if_success (with_reducible show wpAny _ _ (call (Value.builtin "list.append") _) _ _ _));  (fail_if_success (with_reducible show wpAny _ _ (call (Value.builtin "sorted") _ _) _ _ _));  walk_at "sti"))
local macro_rules | `(tactic| walk_at "goj") => `(tactic| repeat' walk_at "sj")
local macro_rules | `(tactic| walk_at "sti") => `(tactic| first | walk_at "st" | ((with_reducible show Frag.In _ _ ∧ _); refine ⟨by k_in, ?_⟩) | ((with_reducible show ite _ _ _); first | (rw [if_pos (by first | rfl | decide)]) | (rw [if_neg (by first | decide | (intro h; cases h))]) | walk1))
local macro_rules | `(tactic| walk_at "goi") => `(tactic| repeat' walk_at "sti")
local macro_rules | `(tactic| walk_at "fx") => `(tactic| (refine' fr_front ?frl ?frr; (case frl => repeat' (first | with_reducible apply B_cons' | exact rfl)); (case frr => repeat' (first | exact trivial | refine And.intro (by with_unfolding_all rfl) ?_))))
local macro_rules | `(tactic| walk_at "mark a") => `(tactic| trivial)
local macro_rules | `(tactic| walk_at "mark b") => `(tactic| trivial)
local macro_rules | `(tactic| walk_at "subscriptTail") => `(tactic| ((with_reducible show wpAny _ _ (subscriptTail _ _ (Value.str (row _ _) _) _) _ _ _); refine last_row ?_))
set_option maxRecDepth 100000 in
set_option maxHeartbeats 8000000 in
theorem mark_ok (w : World) (mean mg mb) (k c : Nat) (t : Tok) (news : Led) : CallsTo w mean mg mb 96 [.str (row k c) t] [] 1 news (fun v n' => n' = news ∧ ∃ t', v = .str ⟨#[c]⟩ t') := by
  w_top off
  refine calls_intro (need := 0) [("row", .str (row k c) t)] rfl rfl (fun _ => rfl) (locs rfl) (by decide) rfl rfl rfl ?_
  dsimp only [KK, looseL, prog]
  k_fill
  intro dp un gd outer A₀ base g L h₁ s₀ B F X N lt T hd hu
  walk_at "goj"
  walk_at "ret"
  exact ⟨rfl, _, rfl⟩
end Mine
end
section
open PySem PySem.W PyProof.Rows
namespace Mine
theorem perm_map_lift {α β : Type} {g : α → β} {ps qs : List β} (h : ps.Perm qs) : ∀ zs : List α, qs = zs.map g → ∃ zs' : List α, zs'.Perm zs ∧ zs'.map g = ps := by
  induction h with
  | nil =>
    intro zs hz
    have : zs = [] := List.map_eq_nil_iff.mp hz.symm
    subst this
    exact ⟨[], .refl _, rfl⟩
  | cons x _ ih =>
    intro zs hz
    cases zs with
    | nil => cases hz
    | cons z r =>
      rw [List.map_cons] at hz
      obtain ⟨h1, h2⟩ := List.cons.inj hz
      obtain ⟨r', p, q⟩ := ih r h2
      exact ⟨z :: r', p.cons z, by rw [List.map_cons, q, h1]⟩
  | swap x y l =>
    intro zs hz
    match zs, hz with
    | [], hz => cases hz
    | [_], hz => cases hz
    | a :: b :: r, hz =>
      rw [List.map_cons, List.map_cons] at hz
      obtain ⟨h1, h2⟩ := List.cons.inj hz
      obtain ⟨h3, h4⟩ := List.cons.inj h2
      exact ⟨b :: a :: r, .swap a b r, by rw [List.map_cons, List.map_cons, ← h1, ← h3, ← h4]⟩
  | trans _ _ ih1 ih2 =>
    intro zs hz
    obtain ⟨z1, p1, q1⟩ := ih2 zs hz
    obtain ⟨z2, p2, q2⟩ := ih1 z1 q1.symm
    exact ⟨z2, p2.trans p1, q2⟩
theorem rows_zip {sv : List (Nat × Nat)} {vs : List Value} (hs : StrsAre vs (rws sv)) : ∀ z ∈ sv.zip vs, ∃ t, z.2 = .str (row z.1.1 z.1.2) t := by
  induction sv generalizing vs with
  | nil => intro z hz; simp at hz
  | cons p r ih =>
    unfold rws at hs
    rw [List.map_cons] at hs
    cases hs with
    | cons _ t h' =>
      intro z hz
      rw [List.zip_cons_cons] at hz
      rcases List.mem_cons.mp hz with rfl | hz
      · exact ⟨t, rfl⟩
      · exact ih h' z hz
theorem strs_of_zip : ∀ (zs : List ((Nat × Nat) × Value)), (∀ z ∈ zs, ∃ t, z.2 = .str (row z.1.1 z.1.2) t) → StrsAre (zs.map (·.2)) (rws (zs.map (·.1)))
  | [], _ => .nil
  | z :: r, h => by
    obtain ⟨t, e⟩ := h z (.head _)
    rw [List.map_cons, e]
    exact .cons _ t (strs_of_zip r fun z hz => h z (.tail _ hz))
theorem sout_rows {sv : List (Nat × Nat)} {vs out : List Value} (hs : StrsAre vs (rws sv)) (h : SOut (sv.map fun p => (⟨#[p.2]⟩ : Str)) vs out) :
    ∃ sp : List (Nat × Nat), sp.Perm sv ∧ StrsAre out (rws sp) ∧ sp.Pairwise fun a b => a.2 ≤ b.2 := by
  obtain ⟨ps, h1, h2, h3⟩ := h
  have hl : vs.length = sv.length := by rw [hs.len_eq, List.length_map]
  have e : (sv.map fun p => (⟨#[p.2]⟩ : Str)).zip vs = (sv.zip vs).map fun z => ((⟨#[z.1.2]⟩ : Str), z.2) := by
    rw [List.zip_map_left]
    exact List.map_congr_left fun ⟨_, _⟩ _ => rfl
  rw [e] at h1
  obtain ⟨zs, p, q⟩ := perm_map_lift h1 _ rfl
  refine ⟨zs.map (·.1), ?_, ?_, ?_⟩
  · have := p.map (·.1)
    rw [List.map_fst_zip (by omega)] at this
    exact this
  · have e2 : out = zs.map (·.2) := by rw [h2, ← q, List.map_map]; rfl
    rw [e2]
    exact strs_of_zip zs fun z hz => rows_zip hs z (p.mem_iff.mp hz)
  · rw [← q, List.pairwise_map] at h3
    rw [List.pairwise_map]
    refine h3.imp fun {a b} hab => ?_
    have : ¬ ([b.1.2] : List Nat) < [a.1.2] := hab
    simp [List.cons_lt_cons_iff] at this
    exact this
/-- where the turns end -/
def fin (ws ts : List Nat) : TSt := ts.foldl tstep (qOf (ws.zip marks), [], [])
/-- what _law_links hands back -/
def LkPost (ws ts : List Nat) (rest : Led) (v : Value) (n' : Led) : Prop :=
  ∃ T D1 D2 : Addr, ∃ vs vl : List Value, ∃ c1 c2 : Nat, ∃ sp : List (Nat × Nat), ∃ ls : List Str, v = .ref T ∧ n' = (T, prO (.ref D1) (.ref D2)) :: (D2, lst vl c2) :: (D1, lst vs c1) :: rest ∧
    (∀ p ∈ rest, p.1 < D1) ∧ D1 < D2 ∧ D2 < T ∧ StrsAre vs (rws sp) ∧ sp.Perm (fin ws ts).2.1 ∧ (sp.Pairwise fun a b => a.2 ≤ b.2) ∧ StrsAre vl ls ∧ ls.Perm ((fin ws ts).2.2.map pairS) ∧ sortedS ls = true
end Mine
end
section
open PySem PySem.W PyProof.Rows
set_option pp.deepTerms false
set_option pp.deepTerms.threshold 3
set_option pp.maxSteps 3000
namespace Mine
local macro_rules | `(tactic| walk_at "st") => `(tactic| ((with_reducible show wpAny _ _ _ _ _ _); (fail_if_success (with_reducible show wpAny _ _ (exec (Stmt.While _ _ _ _) _) _ _ _)); (fail_if_success (with_reducible show wpAny _ _ (exec (Stmt.For _ _ _ _ _) _) _ _ _)); (fail_if_success (with_reducible show wpAny _ _ (call (Value.ref _) _ _) _ _ _)); first | (k_unfold; (try dsimp only)) | walk1 | (dsimp only; walk1)))
local macro_rules | `(tactic| walk_at "go") => `(tactic| repeat' walk_at "st")
local macro_rules | `(tactic| walk_at "fr") => `(tactic| (refine' fr_fin ?frl ?frr; (case frl => repeat' (first | with_reducible apply B_cons' | exact rfl)); (case frr => repeat' (first | exact trivial | refine And.intro (by with_unfolding_all rfl) ?_))))
local macro_rules | `(tactic| walk_at "fs") => `(tactic| (unfold fitsSsize; simp; omega))
local macro_rules | `(tactic| walk_at "ret") => `(tactic| (refine ⟨_, _, _, _, rfl, by assumption, by assumption, ?_⟩))
local macro_rules | `(tactic| walk_at "sj") => `(tactic| ((fail_if_success (with_reducible show wpAny _ _ (subscriptTail _ (Expr.Slice _ _ _ _) (Value.ref _) _) _ _ _)); (fail_if_success (with_reducible show wpAny _ _ (call (Value.builtin "len") [Value.ref _]) _ _ _)); (fail_if_success (with_reducible show wpAny _ _ (call (Value.builtin "list.pop") _) _ _ _)); (fail_if_success (with_reducible show wpAny _ _ (call (Value.builtin "list.insert") _) _ _ _)); (fail_if_success (with_reducible show wpAny _ _ (call (Value.builtin "list.append") _) _ _ _));  (fail_if_success (with_reducible show wpAny _ _ (call (Value.builtin "sorted") _ _) _ _ _));  walk_at "sti"))
local macro_rules | `(tactic| walk_at "goj") => `(tactic| repeat' walk_at "sj")
local macro_rules | `(tactic| walk_at "sti") => `(tactic| first | walk_at "st" | ((with_reducible show Frag.In _ _ ∧ _); refine ⟨by k_in, ?_⟩) | ((with_reducible show ite _ _ _); first | (rw [if_pos (by first | rfl | decide)]) | (rw [if_neg (by first | decide | (intro h; cases h))]) | walk1))
local macro_rules | `(tactic| walk_at "goi") => `(tactic| repeat' walk_at "sti")
local macro_rules | `(tactic| walk_at "fx") => `(tactic| (refine' fr_front ?frl ?frr; (case frl => repeat' (first | with_reducible apply B_cons' | exact rfl)); (case frr => repeat' (first | exact trivial | refine And.intro (by with_unfolding_all rfl) ?_))))
local macro_rules | `(tactic| walk_at "call builtin:len") => `(tactic| ((with_reducible show wpAny _ _ (call (Value.builtin "len") [Value.str (row _ _) _]) _ _ _); refine len_row (by omega) ?_))
local macro_rules | `(tactic| walk_at "subscriptTail") => `(tactic| ((with_reducible show wpAny _ _ (subscriptTail _ _ (Value.str (row _ _) _) _) _ _ _); refine last_row ?_))
local macro_rules | `(tactic| walk_at "binaryOp Add str str") => `(tactic| ((with_reducible show wpAny _ _ (binaryOp Operator.Add (Value.str (Str.mk _) _) (Value.str (Str.mk _) _)) _ _ _); refine add_two ?_; intro t9 tk9))
local macro_rules | `(tactic| walk_at "call builtin:min") => `(tactic| ((with_reducible show wpAny _ _ (call (Value.builtin "min") [Value.str (two _ _) _, Value.str (two _ _) _]) _ _ _); refine min_pair rfl (by assumption) (by assumption) ?_; intro t9 h9 tk9 F9 N9))
set_option maxRecDepth 100000 in
set_option maxHeartbeats 8000000 in
theorem lk_ok (w : World) (mean mg mb) (ws ts : List Nat) (wvs tvs : List Value) (hw : IntsAre wvs (nums ws)) (ht : IntsAre tvs (nums ts)) (hwl : ws.length = 6) (htl : ts.length = 6) (hwm : ∀ x ∈ ws, x ≤ 5) (htm : ∀ x ∈ ts, x ≤ 5)
    (aw at' : Addr) (n n' : Nat) (rest : Led) (hmw : (aw, lst wvs n) ∈ rest) (hmt : (at', lst tvs n') ∈ rest) :
    CallsTo w mean mg mb 103 [.ref aw, .ref at'] [] 4 rest (LkPost ws ts rest) := by
  w_top off
  refine calls_intro (need := 3) [("turns", .ref at'), ("wishes", .ref aw)] rfl rfl (fun _ => rfl) (locs rfl) (by decide) rfl rfl rfl ?_
  dsimp only [KK, looseL, prog]
  k_fill
  intro dp un gd outer A₀ base g L h₁ s₀ B F X N lt T hd hu
  walk_at "goj"
  refine for_start ?_
  walk_at "goj"
  rename_i q h1 hq h2 F1 N1
  refine call_zipS (by decide +kernel) F1 N1 (News.isList N1 (.tail _ hmw)) ?_
  intro I o1 o2 h3 i1 i2 ltI lI F2 N2
  refine iter_zip N2 ?_
  have hI1 : ∀ (vq : List Value) (nq : Nat), ∀ p ∈ (q, lst vq nq) :: rest, ZOff I p.1 := fun vq nq p hp => zoff_lt (by
    rcases List.mem_cons.mp hp with rfl | hp
    · exact show q < I from ltI _ (.head _)
    · exact ltI p (.tail _ hp))
  refine for_ind (ι := Nat) (fun j s' => ∃ h tk' vq nq a b o1 o2, ∃ ex : List (Str × Value), s' = { s₀ with heap := h, toks := tk' } ∧ Fr g L h (BX [("queue", .ref q), ("turns", .ref at'), ("wishes", .ref aw)] ex) ∧
    News g L h (zfr I .none a b o1 o2 ++ (q, lst vq nq) :: rest) ∧ IterS o1 (Str.ofString "abcdef") tk j ∧ IterL o2 aw j ∧ StrsAre vq (rws (qOf ((ws.zip marks).take j))) ∧ j ≤ 6) (fun j => 6 - j) PassesOwn.never ?step 0 ?init
  case init =>
    refine ⟨_, _, [], _, _, _, o1, o2, ?_, rfl, fr_of F2 ?e, N2, i1, i2, .nil, by omega⟩
    case e => walk_at "fx"
  case step =>
    rintro j s' ⟨h, tk', vq, nq, a, b, o1, o2, ex, rfl, F, N, i1, i2, hs, hj⟩ IH
    by_cases hlt : j < 6
    ·
      obtain ⟨x, hx⟩ : ∃ x, ws[j]? = some x := ⟨ws[j], List.getElem?_eq_getElem (by omega)⟩
      obtain ⟨c, hc⟩ : ∃ c, marks[j]? = some c := ⟨marks[j]'(by simpa [marks] using hlt), List.getElem?_eq_getElem (by simpa [marks] using hlt)⟩
      obtain ⟨tx, hv⟩ := hw.get j (x : Int) (by simp [hx])
      refine next_zip F N (hI1 _ _) i1 i2 (zoff_lt lI) (News.isList (items := wvs.toArray) N (List.mem_append_right _ (.tail _ hmw))) (c := c) (by rw [abc_cps]; simpa using hc) (by simpa using hv) ?_
      intro T' h4 tk4 u o1' o2' i1' i2' ltT F4 N4
      refine unpackN_ F4 N4 ⟨_, (N4 _ (.head _)).1, rfl, _, rfl⟩ rfl rfl rfl ?_
      intro h5 F5 N5
      walk_at "goj"
      have hx5 : x ≤ 5 := hwm x (List.mem_of_getElem? hx)
      refine PySem.SB.mul (blank_ok hx5) ?_
      intro t6 tk6
      rw [blank_mul hx5]
      have hbl : (blank x).length = x := by simp [blank, Str.length]
      have hdot : (Str.ofString ".").length = 1 := by decide +kernel
      walk_at "goj"
      rw [row_of]
      have hz : (ws.zip marks)[j]? = some (x, c) := by rw [List.getElem?_zip_eq_some]; exact ⟨hx, hc⟩
      obtain ⟨f1, f2, f3⟩ := foldl_ins (q := []) .nil ((ws.zip marks).take j)
      refine CallsTo.use (ins_ok w _ _ _ x c _ q vq (qOf ((ws.zip marks).take j)) nq hs ?len f1 ?max hx5 ((T', prO _ _) :: (zfr I .none _ _ o1' o2' ++ rest)) ?off) B (by assumption) X (news_mid (a := _ :: zfr I .none _ _ o1' o2') (by assumption)) T rfl (by omega) (by omega) ?_
      case len =>
        have : (ws.zip marks).length ≤ 6 := by rw [List.length_zip]; omega
        rw [show (qOf ((ws.zip marks).take j)).length = _ from f2, List.length_take, List.length_nil]; omega
      case max =>
        intro p hp
        have := f3.mem_iff.mp hp
        simp only [List.append_nil] at this
        exact hwm _ (List.of_mem_zip (List.mem_of_mem_take (show (p.1, p.2) ∈ _ from this))).1
      case off =>
        intro p hp
        rcases List.mem_cons.mp hp with rfl | hp
        · exact Nat.ne_of_gt (ltT (q, _) (List.mem_append_right _ (.head _)))
        · rcases List.mem_append.mp hp with hp | hp
          · exact Nat.ne_of_gt (Nat.lt_of_lt_of_le (show q < I from ltI _ (.head _)) (zfr_ge hp))
          · exact Nat.ne_of_lt (hq p hp)
      rintro v news' h' tk7 F' N' ⟨rfl, vs', n7, rfl, hs'⟩
      walk_at "goj"
      refine IH (j + 1) _ (by omega) ⟨_, _, vs', n7, .str ⟨#[c]⟩ u, .int x tx, o1', o2', ?_, rfl, fr_of F' ?e, ?n, i1', i2', ?s, by omega⟩
      case e => walk_at "fx"
      case n =>
        refine news_of N' fun p hp => ?_
        rcases List.mem_append.mp hp with hp | hp
        · exact .tail _ (.tail _ (List.mem_append_left _ hp))
        · rcases List.mem_cons.mp hp with rfl | hp
          · exact .head _
          · exact .tail _ (.tail _ (List.mem_append_right _ hp))
      case s =>
        rw [List.take_add_one, hz]
        unfold qOf
        rw [Option.toList_some, List.foldl_append]
        exact hs'
    · refine next_zip_end (l := aw) rfl F N (hI1 _ _) i1 (zoff_lt lI) ?_ ?_
      · rw [abc_cps]
        have : j = 6 := by omega
        subst this
        rfl
      intro h4 F4 N4
      have : j = 6 := by omega
      subst this
      rw [List.take_of_length_le (by rw [List.length_zip]; omega)] at hs
      clear IH i1 i2 N F
      walk_at "goj"
      rename_i _ sv h5 lsv h6 lk h7 llk h8 F5 N5
      have hQ := QOk.qOf hwl hwm
      refine for_start ?_
      walk_at "goj"
      refine iter_list F5 N5 (News.isList N5 (.tail _ (.tail _ (.tail _ hmt)))) ?_
      intro I2 oI h9 iL ltI2 F6 N6
      have hIl : lk ≠ I2 := Nat.ne_of_lt (ltI2 _ (.head _))
      have hIs : sv ≠ I2 := Nat.ne_of_lt (ltI2 _ (.tail _ (.head _)))
      have hls : sv ≠ lk := Nat.ne_of_lt llk.1
      have rI : ∀ p ∈ rest, p.1 ≠ I2 := fun p hp => Nat.ne_of_lt (ltI2 p (.tail _ (.tail _ (.tail _ hp))))
      have rl : ∀ p ∈ rest, p.1 ≠ lk := fun p hp => Nat.ne_of_lt (allLt_mem llk.2.2 p hp)
      have rs : ∀ p ∈ rest, p.1 ≠ sv := fun p hp => Nat.ne_of_lt (allLt_mem lsv.2 p hp)
      refine for_ind (ι := Nat) (fun j s' => ∃ h tk' qa vq nq vl nl vs ns oI, ∃ ex : List (Str × Value), ∃ st : TSt, s' = { s₀ with heap := h, toks := tk' } ∧
        Fr g L h (BX [("queue", .ref qa), ("links", .ref lk), ("served", .ref sv), ("turns", .ref at'), ("wishes", .ref aw)] ex) ∧ News g L h ((I2, oI) :: (qa, lst vq nq) :: (lk, lst vl nl) :: (sv, lst vs ns) :: rest) ∧
        IterL oI at' j ∧ (qa ≠ I2 ∧ qa ≠ lk ∧ qa ≠ sv ∧ ∀ p ∈ rest, p.1 ≠ qa) ∧ st = (ts.take j).foldl tstep (qOf (ws.zip marks), [], []) ∧ QOk st.1 (6 - j) ∧ st.2.1.length = j ∧ st.2.2.length ≤ 6 * j ∧
        StrsAre vq (rws st.1) ∧ StrsAre vs (rws st.2.1) ∧ StrsAre vl (st.2.2.map pairS) ∧ j ≤ 6) (fun j => 6 - j) PassesOwn.never ?step2 0 ?init2
      case init2 =>
        refine ⟨_, _, q, vq, nq, [], 0, [], 0, oI, ?_, _, rfl, fr_of F6 ?e, news_of N6 ?n, iL, ⟨Nat.ne_of_lt (ltI2 _ (.tail _ (.tail _ (.head _)))), Nat.ne_of_lt llk.2.1, Nat.ne_of_lt lsv.1, fun p hp => Nat.ne_of_lt (hq p hp)⟩, rfl, hQ, rfl, by simp, hs, .nil, .nil, by omega⟩
        case e => walk_at "fx"
        case n =>
          intro p hp
          simp only [List.mem_cons] at hp ⊢
          rcases hp with rfl | rfl | rfl | rfl | hp
          · exact .inl rfl
          · exact .inr (.inr (.inr (.inl rfl)))
          · exact .inr (.inl rfl)
          · exact .inr (.inr (.inl rfl))
          · exact .inr (.inr (.inr (.inr hp)))
      case step2 =>
        rintro j s' ⟨h, tk', qa, vq, nq, vl, nl, vs, ns, oI, ex, st, rfl, F, N, iL, ⟨dqI, dql, dqs, dqr⟩, hst, hQ, hsl, hll, hq1, hs1, hl1, hj⟩ IH
        clear F5 N5 F6 N6
        by_cases hlt : j < 6
        · obtain ⟨x, hx⟩ : ∃ x, ts[j]? = some x := ⟨ts[j], List.getElem?_eq_getElem (by omega)⟩
          obtain ⟨tx, hv⟩ := ht.get j (x : Int) (by simp [hx])
          refine next_list F N (List.forall_mem_cons.mpr ⟨dqI, List.forall_mem_cons.mpr ⟨hIl, List.forall_mem_cons.mpr ⟨hIs, rI⟩⟩⟩) iL (News.isList (items := tvs.toArray) N (.tail _ (.tail _ (.tail _ (.tail _ hmt))))) (by simpa using hv) ?_
          intro oI' h10 iL' F10 N10
          refine forStep_name ?_
          walk_at "goj"
          rename_i h11 F11 N11
          refine len_rows N11 (.tail _ (.head _)) hq1 hQ.len (by omega) ?_
          walk_at "goj"
          have hm : (x : Int).fmod ((6 - j : Nat) : Int) = ((x % (6 - j) : Nat) : Int) := by rw [Int.fmod_eq_emod_of_nonneg _ (by omega)]; rfl
          rw [hm]
          have hk : x % (6 - j) < 6 - j := Nat.mod_lt _ (by omega)
          obtain ⟨one, hone⟩ : ∃ one, st.1[x % (6 - j)]? = some one := ⟨_, List.getElem?_eq_getElem (by rw [hQ.len]; exact hk)⟩
          obtain ⟨t1, hy⟩ := hq1.at (rws_get hone)
          have hvl : vq.length = 6 - j := by rw [hq1.len_eq, List.length_map, hQ.len]
          refine pop_led F11 N11 hy (by omega) (.tail (Ne.symm dqI) (.head (List.forall_mem_cons.mpr ⟨Ne.symm dql, List.forall_mem_cons.mpr ⟨Ne.symm dqs, dqr⟩⟩))) ?_
          intro h12 F12 N12
          have hq2 : StrsAre (vq.eraseIdx (x % (6 - j))) (rws (st.1.eraseIdx (x % (6 - j)))) := by rw [rws_erase]; exact strs_erase hq1 _
          have hQ2 : QOk (st.1.eraseIdx (x % (6 - j))) (5 - j) := QOk.erase (n := 5 - j) (by rw [show 5 - j + 1 = 6 - j by omega]; exact hQ) (by omega)
          have hone5 : one.1 ≤ 5 := hQ.max one (List.mem_of_getElem? hone)
          generalize hq1d : st.1.eraseIdx (x % (6 - j)) = q1 at *
          generalize hvqd : vq.eraseIdx (x % (6 - j)) = vq1 at *
          have hvl1 : vq1.length = q1.length := by rw [hq2.len_eq, List.length_map]
          walk_at "goj"
          refine CallsTo.use (br_ok w _ _ _ _ _ qa vq1 q1 _ hq2 (by rw [hQ2.len]; omega) hQ2.srt hQ2.max _) B (by assumption) X (news_swap (by assumption)) T rfl (by omega) (by omega) ?_
          rintro v news' h13 tk13 F13 N13 ⟨rfl, t13, rfl⟩
          rw [zs_eq]
          walk_at "goj"
          refine len_rows N13 (.head _) hq2 hQ2.len (by omega) ?_
          walk_at "goj"
          refine kms_slice_lit (s := ⟨_, _, _, _, _⟩) (its := vq1.toArray) (zs := vq1.drop (nearOf q1 one.1)) (by assumption) (by assumption) (News.isList (by assumption) (.head _)) (IsPart.int _ _) .none ?e ?h (by with_unfolding_all rfl) (by intro _; with_unfolding_all rfl) ?z
          case e => rw [near_eq hQ2.len]; exact pick_from (by rw [hvl1]; exact nearOf_le)
          case z => rw [List.size_toArray, hvl1, hQ2.len, sizeLine_eq]; omega
          case h =>
            intro D h14 F14 N14 ltD
            walk_at "goj"
            refine kms_slice_lit (s := ⟨_, _, _, _, _⟩) (its := vq1.toArray) (zs := vq1.take (nearOf q1 one.1)) (by assumption) (by assumption) (News.isList (by assumption) (.tail _ (.head _))) .none (IsPart.int _ _) ?e ?h (by with_unfolding_all rfl) (by intro _; with_unfolding_all rfl) ?z
            case e => rw [near_eq hQ2.len]; exact pick_upto (by rw [hvl1]; exact nearOf_le)
            case z => rw [List.size_toArray, hvl1, hQ2.len, sizeLine_eq]; omega
            case h =>
              intro D2 h15 F15 N15 ltD2
              walk_at "goj"
              rename_i h16 F16 N16
              have hD2 : D < D2 := ltD2 (D, _) (.head _)
              have rD2 : qa < D2 ∧ I2 < D2 ∧ lk < D2 ∧ sv < D2 ∧ ∀ p ∈ rest, p.1 < D2 := ⟨ltD2 (qa, _) (.tail _ (.head _)), ltD2 (I2, _) (.tail _ (.tail _ (.head _))), ltD2 (lk, _) (.tail _ (.tail _ (.tail _ (.head _)))), ltD2 (sv, _) (.tail _ (.tail _ (.tail _ (.tail _ (.head _))))), fun p hp => ltD2 p (.tail _ (.tail _ (.tail _ (.tail _ (.tail _ hp)))))⟩
              have rD : I2 < D ∧ lk < D ∧ sv < D ∧ ∀ p ∈ rest, p.1 < D := ⟨ltD (I2, _) (.tail _ (.head _)), ltD (lk, _) (.tail _ (.tail _ (.head _))), ltD (sv, _) (.tail _ (.tail _ (.tail _ (.head _)))), fun p hp => ltD p (.tail _ (.tail _ (.tail _ (.tail _ hp))))⟩
              have hoth : StrsAre (vq1.drop (nearOf q1 one.1)) (rws (q1.drop (nearOf q1 one.1))) := by unfold rws; rw [List.map_drop]; exact strs_drop hq2 _
              have hkeep : StrsAre (vq1.take (nearOf q1 one.1)) (rws (q1.take (nearOf q1 one.1))) := by unfold rws; rw [List.map_take]; exact strs_take hq2 _
              have hge : ∀ p ∈ q1.drop (nearOf q1 one.1), 1 ≤ p.1 ∧ p.1 ≤ 5 := fun p hp => ⟨mem_drop_zs hQ2.srt (Nat.le_max_left _ _) hp, hQ2.max p (List.mem_of_mem_drop hp)⟩
              have hol : (q1.drop (nearOf q1 one.1)).length ≤ 5 := by rw [List.length_drop, hQ2.len]; omega
              have hol1 : (q1.drop (nearOf q1 one.1)).length ≤ one.1 := by rw [List.length_drop]; unfold nearOf; omega
              generalize hothd : q1.drop (nearOf q1 one.1) = oth at *
              generalize hvoth : vq1.drop (nearOf q1 one.1) = vo at *
              have hvol : vo.length = oth.length := by rw [hoth.len_eq, List.length_map]
              refine for_start ?_
              walk_at "goj"
              refine iter_list F16 N16 (News.isList N16 (.tail _ (.head _))) ?_
              intro J oJ h17 iJ ltJ F17 N17
              have rJ : D2 < J ∧ D < J ∧ I2 < J ∧ lk < J ∧ sv < J ∧ ∀ p ∈ rest, p.1 < J := ⟨ltJ (D2, _) (.head _), ltJ (D, _) (.tail _ (.head _)), ltJ (I2, _) (.tail _ (.tail _ (.tail _ (.head _)))), ltJ (lk, _) (.tail _ (.tail _ (.tail _ (.tail _ (.head _))))), ltJ (sv, _) (.tail _ (.tail _ (.tail _ (.tail _ (.tail _ (.head _)))))), fun p hp => ltJ p (.tail _ (.tail _ (.tail _ (.tail _ (.tail _ (.tail _ hp))))))⟩
              refine for_ind (ι := Nat) (fun i s' => ∃ h tk' vq' nq' vl' nl' oJ, ∃ ex : List (Str × Value), s' = { s₀ with heap := h, toks := tk' } ∧
                Fr g L h (BX [("queue", .ref D2), ("others", .ref D), ("one", .str (row one.1 one.2) t1), ("links", .ref lk), ("served", .ref sv), ("turns", .ref at'), ("wishes", .ref aw)] ex) ∧
                News g L h ((J, oJ) :: (D2, lst vq' nq') :: (lk, lst vl' nl') :: (D, lst vo 0) :: (I2, oI') :: (sv, lst vs ns) :: rest) ∧ IterL oJ D i ∧
                StrsAre vq' (rws (((oth.take i).map dec).foldl ins (q1.take (nearOf q1 one.1)))) ∧ StrsAre vl' ((st.2.2 ++ (oth.take i).map fun o => (one.2, o.2)).map pairS) ∧ i ≤ oth.length) (fun i => oth.length - i) PassesOwn.never ?step3 0 ?init3
              case init3 =>
                refine ⟨_, _, vq1.take (nearOf q1 one.1), 0, vl, nl, oJ, ?_, rfl, fr_of F17 ?e, news_of N17 ?n, iJ, hkeep, by simpa using hl1, by omega⟩
                case e => walk_at "fx"
                case n =>
                  intro p hp
                  simp only [List.mem_cons] at hp ⊢
                  rcases hp with rfl | rfl | rfl | rfl | rfl | rfl | hp
                  · exact .inl rfl
                  · exact .inr (.inl rfl)
                  · exact .inr (.inr (.inr (.inr (.inr (.inl rfl)))))
                  · exact .inr (.inr (.inl rfl))
                  · exact .inr (.inr (.inr (.inr (.inl rfl))))
                  · exact .inr (.inr (.inr (.inr (.inr (.inr (.inl rfl))))))
                  · exact .inr (.inr (.inr (.inr (.inr (.inr (.inr hp))))))
              case step3 =>
                rintro i s' ⟨h, tk', vq', nq', vl', nl', oJ, ex', rfl, F, N, iJ, hq3, hl3, hi⟩ IH2
                clear F16 N16 F17 N17
                by_cases hlt2 : i < oth.length
                · obtain ⟨o, ho⟩ : ∃ o, oth[i]? = some o := ⟨oth[i], List.getElem?_eq_getElem hlt2⟩
                  obtain ⟨to, hvo⟩ := hoth.at (rws_get ho)
                  refine next_list F N (List.forall_mem_cons.mpr ⟨Nat.ne_of_lt rJ.1, List.forall_mem_cons.mpr ⟨Nat.ne_of_lt rJ.2.2.2.1, List.forall_mem_cons.mpr ⟨Nat.ne_of_lt rJ.2.1, List.forall_mem_cons.mpr ⟨Nat.ne_of_lt rJ.2.2.1, List.forall_mem_cons.mpr ⟨Nat.ne_of_lt rJ.2.2.2.2.1, fun p hp => Nat.ne_of_lt (rJ.2.2.2.2.2 p hp)⟩⟩⟩⟩⟩) iJ (News.isList (items := vo.toArray) N (.tail _ (.tail _ (.tail _ (.head _))))) (by simpa using hvo) ?_
                  intro oJ' h18 iJ' F18 N18
                  refine forStep_name ?_
                  walk_at "goj"
                  have hvl3 : vl'.length ≤ 1000 := by rw [hl3.len_eq, List.length_map, List.length_append, List.length_map, List.length_take]; omega
                  refine append_led (by assumption) (by assumption) (.tail (Nat.ne_of_gt rJ.2.2.2.1) (.tail (Nat.ne_of_gt rD2.2.2.1) (.head (List.forall_mem_cons.mpr ⟨Nat.ne_of_gt rD.2.1, List.forall_mem_cons.mpr ⟨Ne.symm hIl, List.forall_mem_cons.mpr ⟨hls, rl⟩⟩⟩)))) hvl3 ?_
                  intro h22 F22 N22
                  walk_at "goj"
                  have ho1 := hge o (List.mem_of_getElem? ho)
                  refine CallsTo.use (strip_ok w _ _ _ o.1 1 o.2 _ _ ho1.1 ho1.2 _) B (by assumption) X (by assumption) T rfl (by omega) (by omega) ?_
                  rintro v news' h23 tk23 F23 N23 ⟨rfl, t23, rfl⟩
                  walk_at "goj"
                  obtain ⟨c1, c2, c3⟩ := cur_ok (i := i) hQ2 (by omega) hothd
                  refine CallsTo.use (ins_ok w _ _ _ (o.1 - 1) o.2 _ D2 vq' _ nq' hq3 c2 c1 c3 (by omega) _ ?off) B (by assumption) X (news_swap (by assumption)) T rfl (by omega) (by omega) ?_
                  case off => exact List.forall_mem_cons.mpr ⟨Nat.ne_of_gt rJ.1, List.forall_mem_cons.mpr ⟨Nat.ne_of_lt rD2.2.2.1, List.forall_mem_cons.mpr ⟨Nat.ne_of_lt hD2, List.forall_mem_cons.mpr ⟨Nat.ne_of_lt rD2.2.1, List.forall_mem_cons.mpr ⟨Nat.ne_of_lt rD2.2.2.2.1, fun p hp => Nat.ne_of_lt (rD2.2.2.2.2 p hp)⟩⟩⟩⟩⟩
                  rintro v news' h24 tk24 F24 N24 ⟨rfl, vs', n7, rfl, hs'⟩
                  walk_at "goj"
                  refine IH2 (i + 1) _ (by omega) ⟨_, _, vs', n7, _, _, oJ', ?_, rfl, fr_of F24 ?e, news_swap N24, iJ', ?s1, ?s2, by omega⟩
                  case e => walk_at "fx"
                  case s1 =>
                    rw [List.take_add_one, ho, Option.toList_some, List.map_append, List.foldl_append]
                    exact hs'
                  case s2 =>
                    have e2 : (st.2.2 ++ (oth.take (i + 1)).map fun o => (one.2, o.2)).map pairS = (st.2.2 ++ (oth.take i).map fun o => (one.2, o.2)).map pairS ++ [pairS (one.2, o.2)] := by
                      rw [List.take_add_one, ho]; simp
                    rw [e2]
                    exact strs_snoc hl3
                · have hie : i = oth.length := by omega
                  refine next_list_end rfl F N (List.forall_mem_cons.mpr ⟨Nat.ne_of_lt rJ.1, List.forall_mem_cons.mpr ⟨Nat.ne_of_lt rJ.2.2.2.1, List.forall_mem_cons.mpr ⟨Nat.ne_of_lt rJ.2.1, List.forall_mem_cons.mpr ⟨Nat.ne_of_lt rJ.2.2.1, List.forall_mem_cons.mpr ⟨Nat.ne_of_lt rJ.2.2.2.2.1, fun p hp => Nat.ne_of_lt (rJ.2.2.2.2.2 p hp)⟩⟩⟩⟩⟩) iJ (News.isList (items := vo.toArray) N (.tail _ (.tail _ (.tail _ (.head _))))) (by simp; omega) ?_
                  intro h18 F18 N18
                  rw [hie, List.take_length] at hq3 hl3
                  clear F N IH2 iJ
                  refine forStep_end ?_
                  walk_at "goj"
                  refine len_rows (by assumption) (.tail _ (.tail _ (.head _))) hoth rfl (by omega) ?_
                  walk_at "goj"
                  refine CallsTo.use (strip_ok w _ _ _ one.1 oth.length one.2 _ _ hol1 hone5 _) B (by assumption) X (by assumption) T rfl (by omega) (by omega) ?_
                  rintro v news' h23 tk23 F23 N23 ⟨rfl, t23, rfl⟩
                  walk_at "goj"
                  have hvsl : vs.length ≤ 1000 := by rw [hs1.len_eq, List.length_map]; omega
                  refine append_led (by assumption) (by assumption) (.tail (Nat.ne_of_gt rD2.2.2.2.1) (.tail (Ne.symm hls) (.tail (Nat.ne_of_gt rD.2.2.1) (.tail (Ne.symm hIs) (.head rs))))) hvsl ?_
                  intro h24 F24 N24
                  walk_at "goj"
                  have hts := tstep_eq hQ.len hone hq1d hothd
                  have hQ3 := new_ok hQ2 (by omega) nearOf_le hothd
                  refine IH (j + 1) _ (by omega) ⟨_, _, D2, vq', nq', vl', nl', vs ++ [.str (row (one.1 - oth.length) one.2) t23], ns + 1, oI', ?_, tstep st x, rfl, fr_of F24 ?e, news_of N24 ?n, iL', ⟨Nat.ne_of_gt rD2.2.1, Nat.ne_of_gt rD2.2.2.1, Nat.ne_of_gt rD2.2.2.2.1, fun p hp => Nat.ne_of_lt (rD2.2.2.2.2 p hp)⟩, ?hst, ?hQ3, ?hsl, ?hll, ?hq, ?hs, ?hl, by omega⟩
                  case e => walk_at "fx"
                  case n =>
                    intro p hp
                    simp only [List.mem_cons] at hp ⊢
                    rcases hp with rfl | rfl | rfl | rfl | hp
                    · exact .inr (.inr (.inr (.inl rfl)))
                    · exact .inl rfl
                    · exact .inr (.inl rfl)
                    · exact .inr (.inr (.inr (.inr (.inl rfl))))
                    · exact .inr (.inr (.inr (.inr (.inr hp))))
                  case hst => rw [List.take_add_one, hx, Option.toList_some, List.foldl_append, ← hst]; rfl
                  case hQ3 => rw [hts, show 6 - (j + 1) = 5 - j by omega]; exact hQ3
                  case hsl => rw [hts]; simp [hsl]
                  case hll => rw [hts]; simp only [List.length_append, List.length_map]; omega
                  case hq => rw [hts]; exact hq3
                  case hs => rw [hts]; unfold rws; rw [List.map_append]; exact strs_snoc hs1
                  case hl => rw [hts]; exact hl3
        · have hje : j = 6 := by omega
          refine next_list_end rfl F N (List.forall_mem_cons.mpr ⟨dqI, List.forall_mem_cons.mpr ⟨hIl, List.forall_mem_cons.mpr ⟨hIs, rI⟩⟩⟩) iL (News.isList (items := tvs.toArray) N (.tail _ (.tail _ (.tail _ (.tail _ hmt))))) (by have := ht.length; simp at this ⊢; omega) ?_
          intro h10 F10 N10
          refine forStep_end ?_
          rw [List.take_of_length_le (by omega)] at hst
          clear F N IH iL
          walk_at "goj"
          have hvsl : vs.length = 6 := by rw [hs1.len_eq, List.length_map]; omega
          refine sorted_key_str (ks := st.2.1.map fun p => (⟨#[p.2]⟩ : Str)) (by assumption) (by assumption) (News.isList N10 (.tail _ (.tail _ (.head _)))) (by rw [List.length_map]; omega) (by omega) (by omega) (ksk_s1 _ _) (fun _ => ksk_l1 _ _) (fun _ => ksk_t1 _ _) ?turn ?out
          case turn =>
            intro i v k hv hk h tk' own Fh Nh
            obtain ⟨p, hp, rfl⟩ : ∃ p, st.2.1[i]? = some p ∧ (⟨#[p.2]⟩ : Str) = k := by simpa using hk
            obtain ⟨tp, hvp⟩ := hs1.at (rws_get hp)
            have hv' : v = .str (row p.1 p.2) tp := Option.some.inj (hv.symm.trans hvp)
            subst hv'
            refine CallsTo.use (dp := dp) (un := un + 2) (mark_ok w _ _ _ _ _ _ _) B Fh X Nh T rfl (by omega) (by omega) ?_
            rintro v news' h23 tk23 F23 N23 ⟨rfl, t23, rfl⟩
            exact ⟨_, _, _, rfl, rfl, F23, N23⟩
          case out =>
            intro D1 h11 tk11 out1 c1 F11 N11 ltD1 ho1
            walk_at "goj"
            have hvll : vl.length < 64 := by rw [hl1.len_eq, List.length_map]; omega
            refine sorted_N_str F11 N11 (News.isList N11 (.tail _ (.tail _ (.head _)))) hl1 hvll ?_
            intro h12 vl2 ls2 e2 F12 N12 hl2 hp2 hso2
            generalize hD2 : (Shared.heap _).objs.size + 1 = D2 at N12 ⊢
            have hD12 : D1 < D2 := by
              rw [← hD2]
              exact Nat.lt_succ_of_lt (Heap.lt_size (N11 _ (.head _)).1)
            walk_at "goj"
            rename_i D3 h13 F13 N13 ltD3
            obtain ⟨sp, sp1, sp2, sp3⟩ := sout_rows hs1 ho1
            obtain ⟨vo1, rfl⟩ : ∃ vo1 : List Value, out1 = vo1.toArray := ⟨out1.toList, by rw [Array.toArray_toList]⟩
            refine ⟨_, _, _, (D3, prO (.ref D1) (.ref D2)) :: (D2, lst vl2 e2) :: (D1, lst vo1 c1) :: rest, rfl, F13, news_of N13 ?n, D3, D1, D2, vo1, vl2, c1, e2, sp, ls2, rfl, rfl, fun p hp => ltD1 p (.tail _ (.tail _ (.tail _ hp))), hD12, ltD3.1, sp2, ?s1, sp3, hl2, ?s2, hso2⟩
            case n =>
              intro p hp
              simp only [List.mem_cons] at hp ⊢
              rcases hp with rfl | rfl | rfl | hp
              · exact .inl rfl
              · exact .inr (.inl rfl)
              · exact .inr (.inr (.inl rfl))
              · exact .inr (.inr (.inr (.inr (.inr (.inr hp)))))
            case s1 => rw [show fin ws ts = st from hst.symm]; exact sp1
            case s2 => rw [show fin ws ts = st from hst.symm]; exact hp2
end Mine
end
section
open PySem PySem.W PySem.Calls PyProof.Rows
set_option maxRecDepth 100000
namespace Mine
/-- what is left to show of a comprehension once its list has been read -/
def CompGo (prog : Program) (w : World) (A : Around) (env : Env) (scope : Scope) (cl : List (Str × Addr)) (x : Str) (ifs : List Expr) (elt : Expr) (p : Value → Bool) (G : Value → Value → Prop) (Q E : Value → Shared → Prop) (xv : Value) (s : Shared) : Prop :=
  wpAny (model prog w) A (pyIter xv) (fun it s₂ => ∃ I fp wr n P St, it = .ref I ∧ Walks prog w A I fp wr n P St ∧ n ≤ sizeLine ∧ St 0 s₂.heap ∧ (∀ b ∈ fp, b < s₂.heap.objs.size) ∧
      QuietOnC prog w A env scope cl x ifs elt wr P p G s₂ ∧
      (∀ D h' tk ys (vs : List Value), s₂.heap.get? D = none → h'.IsList D ys → h'.PlainList D ys → vs.length = n → (∀ j v, vs[j]? = some v → P j v) → Paired G (vs.filter p) ys.toList →
        (∀ b o, b ∉ wr → s₂.heap.get? b = some o → h'.get? b = some o) → Q (.ref D) { s₂ with heap := h', toks := tk })) E s
theorem comp_free {prog : Program} {w : World} {A : Around} {env : Env} {E : Value → Shared → Prop} {s : Shared} {elt iter : Expr} {x : Str} {px : Pos} {ifs : List Expr} {scope : Scope} {cl : List (Str × Addr)} {pos : Pos} {Q : Value → Shared → Prop} (p : Value → Bool) (G : Value → Value → Prop)
    (hclos : closureFor scope env = pure cl) (hcell : ∀ y ∈ scope.names, y.2 ≠ .cell) (hkind : scope.kind = .function)
    (hnames : ∀ y ∈ scope.names, y.2 = .local → scope.names.lookup y.1 = some .local) (hx : scope.names.lookup x = some .local)
    (h : wpAny (model prog w) A (eval iter env) (fun xv s₁ => CompGo prog w A env scope cl x ifs elt p G Q E xv s₁) E s)
    (hs : ∀ x, foldedSetIterable iter env x = pure x := by intro _; rfl) :
    wpAny (model prog w) A (eval (.ListComp elt [⟨.Name x px, iter, ifs, 0⟩] scope pos) env) Q E s := wpAny_ListComp_free p G hclos hcell hkind hnames hx h hs
section
variable {prog : Program} {w : World} {A : Around} {E : Value → Shared → Prop} {s : Shared} {h₀ : Heap} {L : Addr} {m : Loc} {led : Led} {a : Addr} {vs : List Value} {n : Nat}
  {env : Env} {scope : Scope} {cl : List (Str × Addr)} {x : Str} {ifs : List Expr} {elt : Expr} {p : Value → Bool} {G : Value → Value → Prop} {Q : Value → Shared → Prop}
theorem iter_walk_list (hh : A.handled = none) (F : Fr h₀ L s.heap m) (N : News h₀ L s.heap led) (hm : s.heap.IsList a vs.toArray) (hsz : vs.length ≤ 1000)
    (htest : ∀ C v s₃ m₃ E', v ∈ vs → s₃.heap.Ns C m₃ → m₃ x = some v → (∀ b o, s.heap.get? b = some o → s₃.heap.get? b = some o) → C ≠ L →
      wpAny (model prog w) A (forIn ifs true fun c r => if r = true then do let ok ← isTrue c (compEnvC scope cl C env) (eval c (compEnvC scope cl C env)); pure (ForInStep.yield ok) else pure (ForInStep.yield r))
        (fun ok s₄ => ok = p v ∧ Keeps s₃ s₄) E' s₃)
    (helt : ∀ C v s₃ m₃ E', v ∈ vs → p v = true → s₃.heap.Ns C m₃ → m₃ x = some v → (∀ b o, s.heap.get? b = some o → s₃.heap.get? b = some o) → C ≠ L →
      wpAny (model prog w) A (eval elt (compEnvC scope cl C env)) (fun y s₄ => G v y ∧ Keeps s₃ s₄) E' s₃)
    (hq : ∀ D h' tk ys k, Fr h₀ L h' m → News h₀ L h' ((D, lst ys k) :: led) → (∀ q ∈ led, q.1 ≠ D) → Paired G (vs.filter p) ys → Q (.ref D) { s with heap := h', toks := tk }) :
    CompGo prog w A env scope cl x ifs elt p G Q E (.ref a) s := by
  refine wpAny_pyIter_list hm ?_
  have hal : a < s.heap.objs.size := by obtain ⟨o, ho, _⟩ := hm; exact Heap.lt_size ho
  have hL : L < s.heap.objs.size := F.ns.lt
  have hold : ∀ b o, s.heap.get? b = some o → (s.heap.push { cls := .type "list_iterator", data := .fields #[.ref a, .int 0 0] }).get? b = some o := fun _ _ e => Heap.get?_push_of_some _ e
  have hne : ∀ b o, s.heap.get? b = some o → b ∉ [s.heap.objs.size] := fun b o e q => by simp at q; exact absurd (Heap.lt_size e) (by rw [q]; exact Nat.lt_irrefl _)
  refine ⟨s.heap.objs.size, [s.heap.objs.size, a], [s.heap.objs.size], vs.toArray.size, _, _, rfl, Walks.list hh s.heap.objs.size a (Nat.ne_of_lt hal) vs.toArray, by rw [List.size_toArray, sizeLine_eq]; omega, ?_, ?_, ?_, ?_⟩
  · refine ⟨⟨_, Heap.get?_push_size _ rfl, rfl, rfl⟩, ?_⟩
    obtain ⟨o, ho, r⟩ := hm
    exact ⟨o, hold _ _ ho, r⟩
  · intro b hb
    dsimp only
    rw [Heap.size_push]
    simp at hb
    rcases hb with rfl | rfl
    · exact Nat.lt_succ_self _
    · exact Nat.lt_succ_of_lt hal
  · constructor
    · intro C i v s₃ m₃ E' hC hv hns hmx hk htk
      refine htest C v s₃ m₃ E' (by simpa using List.mem_of_getElem? (by simpa using hv)) hns hmx (fun b o e => hk b o (hne b o e) (hold b o e)) ?_
      dsimp only at hC
      rw [Heap.size_push] at hC
      exact Nat.ne_of_gt (Nat.lt_of_lt_of_le hL (Nat.le_of_succ_le hC))
    · intro C i v s₃ m₃ E' hC hv hp hns hmx hk htk
      refine helt C v s₃ m₃ E' (by simpa using List.mem_of_getElem? (by simpa using hv)) hp hns hmx (fun b o e => hk b o (hne b o e) (hold b o e)) ?_
      dsimp only at hC
      rw [Heap.size_push] at hC
      exact Nat.ne_of_gt (Nat.lt_of_lt_of_le hL (Nat.le_of_succ_le hC))
  · intro D h' tk ys vs' hD hl hpl hlen hP hpair hk
    have hall : ∀ b o, s.heap.get? b = some o → h'.get? b = some o := fun b o e => hk b o (hne b o e) (hold b o e)
    have hev : vs' = vs := by
      apply List.ext_getElem?
      intro j
      by_cases hj : j < vs'.length
      · rw [List.getElem?_eq_getElem hj]
        have := hP j _ (List.getElem?_eq_getElem hj)
        simpa using this.symm
      · rw [List.getElem?_eq_none (by omega), List.getElem?_eq_none (by simp at hlen; omega)]
    subst hev
    obtain ⟨k, hk'⟩ := hpl
    have hDn : s.heap.get? D = none := by
      cases q : s.heap.get? D with
      | none => rfl
      | some o => have := hold _ _ q; dsimp only at hD; rw [hD] at this; cases this
    refine hq D h' tk ys.toList k (F.keeps hall) ?_ ?_ hpair
    · intro q hq
      cases hq with
      | head =>
        refine ⟨by simpa using hk', ?_, ?_⟩
        · intro q; obtain ⟨oL, es, ep, hL, _⟩ := F.ns; dsimp only at q; rw [q, hL] at hDn; cases hDn
        · cases q : h₀.get? D with
          | none => rfl
          | some o => have := F.keep _ _ q; rw [hDn] at this; cases this
      | tail _ hq => exact ⟨hall _ _ (N q hq).1, (N q hq).2⟩
    · intro q hq e
      have := (N q hq).1
      rw [e, hDn] at this; cases this
end

/-- a def with cells is entered -/
theorem calls_introC {w : World} {mean : ExcName → Option Value} {mg mb : Loc} {f : Addr} {args : List Value} {kw : List (Str × Value)} {need : Nat} {news : Led} {Post : Value → Led → Prop}
    {name qual : Str} {params : Arguments} {body : List Stmt} {scope : Scope} {dV kV doc pm cdv ct oc : Value} {an od : Option Addr} {osl : Array (Option Value)} (bs : List (Str × Value))
    (ho : (KK w).lookup f = some ⟨oc, od, .func (fnOf name qual params body scope dV kV doc pm an cdv ct), osl⟩) (hcd : codeIn (KK w) cdv qual = true)
    (hb : ∀ S, peek (KK w) S (bindArgs (fnOf name qual params body scope dV kV doc pm an cdv ct) ⟨args, kw⟩) = some bs.reverse)
    (hkind : ∀ n, ∀ x ∈ bs.reverse, scope.names.lookup x.1 = some .local ∨ (scope.names.lookup x.1 = some .cell ∧ ((cellsFrom n scope.names []).lookup x.1).isSome = true))
    (hnd : ((cellsFrom 0 scope.names []).map (·.1)).Nodup) (hco : scope.isCoroutine = false) (hgen : scope.isGenerator = false) (hk : scope.kind = .function)
    (h : ∀ (dp un : Nat) (gd : Option (List Code)) (outer : List Env) (A₀ : Around) (base g : Heap) (L' : Addr) (h₁ : Heap) (s₀ : Shared) (cells : Led),
      Below A₀ base outer g → Fr g L' h₁ (bindL (envOfC qual scope L' f cdv).kindOf bs.reverse fun _ => none) → (KK w).In g → News g L' h₁ (cells ++ news) →
      CellsAre (bindC (envOfC qual scope L' f cdv).kindOf bs.reverse fun _ => none) (cellsFrom (L' + 1) scope.names []) cells → (∀ p ∈ news, p.1 < L') → Top hd.view_39 looseL mean mg mb g → dp + need < recursionLimit → un + 8 * need < cLine →
      wpAny (model prog w) (ktrTop dp un gd qual scope L' f cdv (cellsFrom (L' + 1) scope.names []) outer) (execs body (envOfC qual scope L' f cdv)) (RetP g L' s₀ Post) (fun _ _ => False) { s₀ with heap := h₁ }) :
    CallsTo w mean mg mb f args kw (need + 1) news Post := by
  intro dp un gd cn cs a ccd cl outer A₀ base h₀ L m s Q E B₀ F X N T hck hd hu hret
  refine wpAny_call (callX_cells B₀ F N T.nolimit rfl rfl hck ((X.keeps F.keep) _ _ ho) rfl (codeRec_of (X.keeps F.keep) hcd) (show dp < recursionLimit by omega) (kp_binds (X.keeps F.keep) hb) hkind hnd (fun g L' h₁ tk cells FG F' N' CA B' st lt => ?_) hco hgen hk)
  have hw := h (dp + 1) (un + 3) gd (envX cn cs L a ccd cl :: outer) _ base g L' h₁ { s with toks := tk } cells B' F' (X.keeps st) N' CA lt (T.keeps st) (by omega) (by omega)
  refine wpAny_mono hw (fun fl s' hl => ?_) (fun _ _ x => x.elim)
  obtain ⟨h', tk', m', news', rfl, F₁, N₁, hp⟩ := hl
  exact ⟨L', m', news', F₁, N₁, fun F₂ N₂ => hret _ _ _ _ F₂ N₂ hp⟩

theorem bindL_B (k : Str → Option NameKind) : ∀ (bs base : List (Str × Value)), bindL k bs (B base) = B ((bs.filter fun x => k x.1 = some .local).reverse ++ base)
  | [], base => rfl
  | (n, v) :: r, base => by
    unfold bindL
    by_cases h : k n = some .local
    · rw [if_pos h, B_cons, bindL_B k r]
      simp [h]
    · rw [if_neg h, bindL_B k r]
      simp [h]
theorem bindC_B (k : Str → Option NameKind) : ∀ (bs base : List (Str × Value)), bindC k bs (B base) = B ((bs.filter fun x => ¬ k x.1 = some .local).reverse ++ base)
  | [], base => rfl
  | (n, v) :: r, base => by
    unfold bindC
    by_cases h : k n = some .local
    · rw [if_pos h, bindC_B k r]
      simp [h]
    · rw [if_neg h, B_cons, bindC_B k r]
      simp [h]
theorem calls_introD {w : World} {mean : ExcName → Option Value} {mg mb : Loc} {f : Addr} {args : List Value} {kw : List (Str × Value)} {need : Nat} {news : Led} {Post : Value → Led → Prop}
    {name qual : Str} {params : Arguments} {body : List Stmt} {scope : Scope} {dV kV doc pm cdv ct oc : Value} {an od : Option Addr} {osl : Array (Option Value)} (bs bl bc : List (Str × Value)) (cf : Nat → List (Str × Addr))
    (ho : (KK w).lookup f = some ⟨oc, od, .func (fnOf name qual params body scope dV kV doc pm an cdv ct), osl⟩) (hcd : codeIn (KK w) cdv qual = true)
    (hb : ∀ S, peek (KK w) S (bindArgs (fnOf name qual params body scope dV kV doc pm an cdv ct) ⟨args, kw⟩) = some bs.reverse)
    (hcf : ∀ n, cellsFrom n scope.names [] = cf n)
    (hkind : ∀ n, ∀ x ∈ bs.reverse, scope.names.lookup x.1 = some .local ∨ (scope.names.lookup x.1 = some .cell ∧ ((cf n).lookup x.1).isSome = true))
    (hnd : ((cf 0).map (·.1)).Nodup) (hbl : (bs.reverse.filter fun x => scope.names.lookup x.1 = some .local).reverse = bl) (hbc : (bs.reverse.filter fun x => ¬ scope.names.lookup x.1 = some .local).reverse = bc)
    (hco : scope.isCoroutine = false) (hgen : scope.isGenerator = false) (hk : scope.kind = .function)
    (h : ∀ (dp un : Nat) (gd : Option (List Code)) (outer : List Env) (A₀ : Around) (base g : Heap) (L' : Addr) (h₁ : Heap) (s₀ : Shared) (cells : Led),
      Below A₀ base outer g → Fr g L' h₁ (B bl) → (KK w).In g → News g L' h₁ (cells ++ news) →
      CellsAre (B bc) (cf (L' + 1)) cells → (∀ p ∈ news, p.1 < L') → Top hd.view_39 looseL mean mg mb g → dp + need < recursionLimit → un + 8 * need < cLine →
      wpAny (model prog w) (ktrTop dp un gd qual scope L' f cdv (cf (L' + 1)) outer) (execs body (envX qual scope L' f cdv (cf (L' + 1)))) (RetP g L' s₀ Post) (fun _ _ => False) { s₀ with heap := h₁ }) :
    CallsTo w mean mg mb f args kw (need + 1) news Post := by
  refine calls_introC bs ho hcd hb (fun n => by rw [hcf]; exact hkind n) (by rw [hcf]; exact hnd) hco hgen hk ?_
  intro dp un gd outer A₀ base g L' h₁ s₀ cells B₀ F X N CA lt T hd hu
  have e1 : bindL (envOfC qual scope L' f cdv).kindOf bs.reverse (B []) = B bl := by
    rw [bindL_B, List.append_nil]; exact congrArg B hbl
  have e2 : bindC (envOfC qual scope L' f cdv).kindOf bs.reverse (B []) = B bc := by
    rw [bindC_B, List.append_nil]; exact congrArg B hbc
  have hw := h dp un gd outer A₀ base g L' h₁ s₀ cells B₀ (e1 ▸ F) X N (by rw [← hcf, ← e2]; exact CA) lt T hd hu
  rw [← hcf] at hw
  exact hw

theorem news_sub {h₀ : Heap} {L : Addr} {h : Heap} {l l' : Led} (N : News h₀ L h l) (hs : ∀ p ∈ l', p ∈ l) : News h₀ L h l' := fun p hp => N p (hs p hp)
theorem storeC {M : Model} {A : Around} {E : Value → Shared → Prop} {s : Shared} {h₀ : Heap} {L a : Addr} {m : Loc} {cn : Str} {cs : Scope} {ccd : Value} {cl : List (Str × Addr)} {x : Str} {v : Value} {Q : Unit → Shared → Prop} {led : Led} {c : Addr} {o : Obj} {v₀ : Option Value}
    (F : Fr h₀ L s.heap m) (N : News h₀ L s.heap ((c, o) :: led)) (hne : ∀ p ∈ led, p.1 ≠ c) (hc : cl.lookup x = some c) (hd : o.data = .cell v₀) (hk : cs.kind = .function) (hx : (envX cn cs L a ccd cl).kindOf x = some .cell)
    (h : ∀ h' o', Fr h₀ L h' m → News h₀ L h' ((c, o') :: led) → o'.data = .cell (some v) → Q () { s with heap := h' }) : wpAny M A (storeName (envX cn cs L a ccd cl) x v) Q E s :=
  storeX_C F N hc (.head hne) hd h hk hx

section
variable {M : Model} {A : Around} {E : Value → Shared → Prop} {s : Shared} {cenv : Env}
theorem keeps_refl (s : Shared) : Keeps s s := ⟨s.heap, s.toks, rfl, fun _ _ e => e⟩
theorem test_one {c : Expr} {p : Bool} (h : wpAny M A (isTrue c cenv (eval c cenv)) (fun ok s' => ok = p ∧ Keeps s s') E s) :
    wpAny M A (forIn [c] true fun c r => if r = true then do let ok ← isTrue c cenv (eval c cenv); pure (ForInStep.yield ok) else pure (ForInStep.yield r)) (fun ok s' => ok = p ∧ Keeps s s') E s := by
  rw [List.forIn_cons]
  refine wpAny_bind ?_
  rw [if_pos rfl]
  refine wpAny_bind (wpAny_mono h (fun ok s' hk => wpAny_pure ?_) fun _ _ e => e)
  exact wpAny_pure hk
/-- mark in link -/
theorem mark_in {x y : Str} {px py pos : Pos} {a b : Str} {t u : Tok} {c : Addr} {m₃ : Loc} {prog : Program} {w : World} (hk : cenv.scope.kind = .function) (hx : cenv.kindOf x = some .cell) (hc : cenv.cells.lookup x = some c) (hv : s.heap.IsCell c (some (.str a t)))
    (hy : cenv.kindOf y = some .local) (hn : s.heap.Ns cenv.locals m₃) (hm : m₃ y = some (.str b u)) (hdx : (x == ("__debug__" : Str)) = false) (hdy : (y == ("__debug__" : Str)) = false) {whole : Sem Value} :
    wpAny (model prog w) A (isTrue (.Compare (.Name x px) [.In] [.Name y py] pos) cenv whole) (fun ok s' => ok = Txt.contains b a ∧ Keeps s s') E s := by
  refine wpAny_isTrue_Compare1 (wpAny_Name (wpAny_loadName_cell hk hx hc hv (wpAny_Name (wpAny_loadName_local hk hy hn hm ?_) hdy)) hdx)
  refine SB.contains ?_
  exact wpAny_pure ⟨rfl, keeps_refl s⟩
end

theorem paired_eq : ∀ {a b : List Value}, Paired (fun v y => v = y) a b → b = a
  | _, _, .nil => rfl
  | _, _, .cons h r => by rw [paired_eq r, h]
theorem strs_filter {p : Value → Bool} {f : Str → Bool} (hp : ∀ l t, p (.str l t) = f l) : ∀ {vs : List Value} {ls : List Str}, StrsAre vs ls → StrsAre (vs.filter p) (ls.filter f)
  | _, _, .nil => .nil
  | _, _, .cons l t r => by
    have ih := strs_filter hp r
    rw [List.filter_cons, List.filter_cons, hp]
    cases f l with
    | true => exact .cons l t ih
    | false => exact ih

theorem append_str {prog : Program} {w : World} {A : Around} {E : Value → Shared → Prop} {s : Shared} {h₀ : Heap} {L D : Addr} {m : Loc} {led : Led} {vs : List Value} {ys : List Str} {n : Nat} {y : Str} {t : Tok} {Q : Value → Shared → Prop}
    (F : Fr h₀ L s.heap m) (N : News h₀ L s.heap ((D, lst vs n) :: led)) (hne : ∀ p ∈ led, p.1 ≠ D) (hs : StrsAre vs ys) (hl : ys.length ≤ 1000)
    (hq : ∀ h' vs', StrsAre vs' (ys ++ [y]) → Fr h₀ L h' m → News h₀ L h' ((D, lst vs' (n + 1)) :: led) → Q .none { s with heap := h' }) : wpAny (model prog w) A (call (.builtin "list.append") [.ref D, .str y t]) Q E s :=
  append_led F N (.head hne) (by rw [StrsAre.length hs]; exact hl) fun h' F' N' => hq h' _ (strs_snoc hs) F' N'
end Mine
end
section
open PySem PySem.W PySem.Calls PyProof.Rows
set_option maxRecDepth 100000
namespace Mine
section
variable {prog : Program} {w : World} {A : Around} {E : Value → Shared → Prop} {s : Shared} {h₀ h h' : Heap} {L I r : Addr} {m : Loc} {led : Led} {o o' : Obj}
abbrev rgI (x left : Int) : Obj := { cls := .type "range_iterator", dict := none, data := .fields #[rawInt x, rawInt left, rawInt 1], slots := #[] }
abbrev rgO (a b c : Int) (t u v : Tok) : Obj := { cls := .type "range", dict := none, data := .fields #[.int a t, .int b u, .int c v], slots := #[] }
theorem iter_range {a b n : Int} {t u v : Tok} {Q : Value → Shared → Prop} (F : Fr h₀ L s.heap m) (N : News h₀ L s.heap led) (hr : IsRange s.heap r a b 1 t u v) (hsmall : Builtin.Range.small a b 1 = true) (hn : Builtin.Range.rangeSize a b 1 = n)
    (h : ∀ I h', (∀ p ∈ led, p.1 < I) → Fr h₀ L h' m → News h₀ L h' ((I, rgI a n) :: led) → Q (.ref I) { s with heap := h' }) : wpAny (model prog w) A (pyIter (.ref r)) Q E s := by
  subst hn
  exact wpAny_pyIter_range hr hsmall (h _ _ (fun p hp => Heap.lt_size (N p hp).1) (F.push _) (N.push F _))
theorem next_range {x left : Int} {Q : Option Value → Shared → Prop} (F : Fr h₀ L s.heap m) (N : News h₀ L s.heap ((I, rgI x left) :: led)) (hI : ∀ p ∈ led, p.1 ≠ I) (hl : 0 < left)
    (h : ∀ t h' tk, Fr h₀ L h' m → News h₀ L h' ((I, rgI (x + 1) (left - 1)) :: led) → Q (some (.int x t)) { s with heap := h', toks := tk }) : wpAny (model prog w) A (pyNext (.ref I)) Q E s := by
  refine wpAny_pyNext_range_item (N _ (.head _)).1 hl fun h' hit hs => ?_
  exact h _ h' _ (fr_but F N hs) (news_but N hI hs hit)
theorem next_range_end {x left : Int} {Q : Option Value → Shared → Prop} (hh : A.handled = none) (F : Fr h₀ L s.heap m) (N : News h₀ L s.heap ((I, rgI x left) :: led)) (hI : ∀ p ∈ led, p.1 ≠ I) (hl : left ≤ 0)
    (h : ∀ h', Fr h₀ L h' m → News h₀ L h' led → Q none { s with heap := h' }) : wpAny (model prog w) A (pyNext (.ref I)) Q E s :=
  wpAny_pyNext_range_end hh (N _ (.head _)).1 hl fun h' hs => h h' (fr_ext F N hs) (news_ext N hI hs)
end
theorem ints_paired {f : Int → Int} : ∀ {vs ys : List Value} {ns : List Int}, IntsAre vs ns → Paired (fun v y => ∃ a ta tb, v = .int a ta ∧ y = .int (f a) tb) vs ys → IntsAre ys (ns.map f)
  | _, _, _, .nil, .nil => .nil
  | _, _, _, .cons n t r, .cons h q => by
    obtain ⟨a, ta, tb, e1, rfl⟩ := h
    cases e1
    exact .cons _ _ (ints_paired r q)
theorem rsize (a : Int) (n : Nat) : Builtin.Range.rangeSize a (a + n) 1 = n := by
  unfold Builtin.Range.rangeSize
  simp
  omega
end Mine
end
section
open PySem PySem.W PyProof.Rows
set_option pp.deepTerms false
set_option pp.deepTerms.threshold 3
set_option pp.maxSteps 3000
namespace Mine
local macro_rules | `(tactic| walk_at "st") => `(tactic| ((with_reducible show wpAny _ _ _ _ _ _); (fail_if_success (with_reducible show wpAny _ _ (exec (Stmt.While _ _ _ _) _) _ _ _)); (fail_if_success (with_reducible show wpAny _ _ (exec (Stmt.For _ _ _ _ _) _) _ _ _)); (fail_if_success (with_reducible show wpAny _ _ (call (Value.ref _) _ _) _ _ _)); first | (k_unfold; (try dsimp only)) | walk1 | (dsimp only; walk1)))
local macro_rules | `(tactic| walk_at "go") => `(tactic| repeat' walk_at "st")
local macro_rules | `(tactic| walk_at "fr") => `(tactic| (refine' fr_fin ?frl ?frr; (case frl => repeat' (first | with_reducible apply B_cons' | exact rfl)); (case frr => repeat' (first | exact trivial | refine And.intro (by with_unfolding_all rfl) ?_))))
local macro_rules | `(tactic| walk_at "fs") => `(tactic| (unfold fitsSsize; simp; omega))
local macro_rules | `(tactic| walk_at "ret") => `(tactic| (refine ⟨_, _, _, _, rfl, by assumption, by assumption, ?_⟩))
local macro_rules | `(tactic| walk_at "sj") => `(tactic| ((fail_if_success (with_reducible show wpAny _ _ (subscriptTail _ (Expr.Slice _ _ _ _) (Value.ref _) _) _ _ _)); (fail_if_success (with_reducible show wpAny _ _ (call (Value.builtin "len") [Value.ref _]) _ _ _)); (fail_if_success (with_reducible show wpAny _ _ (call (Value.builtin "list.pop") _) _ _ _)); (fail_if_success (with_reducible show wpAny _ _ (call (Value.builtin "list.insert") _) _ _ _)); (fail_if_success (with_reducible show wpAny _ _ (call (Value.builtin "list.append") _) _ _ _));  (fail_if_success (with_reducible show wpAny _ _ (call (Value.builtin "sorted") _ _) _ _ _));  walk_at "sti"))
local macro_rules | `(tactic| walk_at "goj") => `(tactic| repeat' walk_at "sj")
local macro_rules | `(tactic| walk_at "sti") => `(tactic| first | walk_at "st" | ((with_reducible show Frag.In _ _ ∧ _); refine ⟨by k_in, ?_⟩) | ((with_reducible show ite _ _ _); first | (rw [if_pos (by first | rfl | decide)]) | (rw [if_neg (by first | decide | (intro h; cases h))]) | walk1))
local macro_rules | `(tactic| walk_at "goi") => `(tactic| repeat' walk_at "sti")
local macro_rules | `(tactic| walk_at "fx") => `(tactic| (refine' fr_front ?frl ?frr; (case frl => repeat' (first | with_reducible apply B_cons' | exact rfl)); (case frr => repeat' (first | exact trivial | refine And.intro (by with_unfolding_all rfl) ?_))))
local macro_rules | `(tactic| walk_at "sk") => `(tactic| ((fail_if_success (with_reducible show wpAny _ _ (eval (Expr.ListComp _ _ _ _) _) _ _ _)); (fail_if_success (with_reducible show wpAny _ _ (exec (Stmt.Assign _ (Expr.ListComp _ _ _ _) _) _) _ _ _)); walk_at "sj"))
local macro_rules | `(tactic| walk_at "gok") => `(tactic| repeat' walk_at "sk")
def lack (ls : List Str) (z : Nat × Nat) : Nat := z.1 - (ls.filter fun l => Txt.contains l ⟨#[z.2]⟩).length
def dueRow (ls : List Str) (z : Nat × Nat) : Str := ⟨((if lack ls z = 0 then [46, 46] else List.replicate (lack ls z) 32 ++ [46]) ++ [z.2, 13, 10]).toArray⟩
theorem sum_le {k : Nat} : ∀ {l : List Str}, (∀ y ∈ l, y.length ≤ k) → (l.map (·.length)).sum ≤ l.length * k
  | [], _ => Nat.zero_le _
  | y :: r, h => by
    have := sum_le (l := r) fun y hy => h y (.tail _ hy)
    have h1 := h y (.head _)
    rw [List.map_cons, List.sum_cons, List.length_cons, Nat.add_mul]; omega
theorem dueRow_len {ls : List Str} {z : Nat × Nat} (h : z.1 ≤ 5) : (dueRow ls z).length ≤ 10 := by
  have : lack ls z ≤ 5 := Nat.le_trans (Nat.sub_le _ _) h
  unfold dueRow Str.length
  rw [List.size_toArray, List.length_append]
  split <;> simp <;> omega
theorem due_zero {ls : List Str} {x c : Nat} (h : lack ls (x, c) = 0) : dueRow ls (x, c) = (Str.ofString ".." ++ (⟨#[c]⟩ : Str)) ++ Str.ofString "\r\n" := by
  have h1 : Str.ofString ".." = ⟨#[46, 46]⟩ := by decide +kernel
  have h2 : Str.ofString "\r\n" = ⟨#[13, 10]⟩ := by decide +kernel
  rw [h1, h2]
  unfold dueRow
  rw [if_pos h]
  rfl
theorem due_pos {ls : List Str} {x c k : Nat} (h : lack ls (x, c) = k) (hk : k ≠ 0) (h5 : k ≤ 5) : dueRow ls (x, c) = ((Txt.mul (Str.ofString " ") (k : Int) ++ Str.ofString ".") ++ (⟨#[c]⟩ : Str)) ++ Str.ofString "\r\n" := by
  have h2 : Str.ofString "\r\n" = ⟨#[13, 10]⟩ := by decide +kernel
  rw [h2, blank_mul h5, row_of]
  unfold dueRow
  rw [h, if_neg hk]
  show _ = (⟨(row k c).cps ++ #[13, 10]⟩ : Str)
  unfold row
  simp
set_option maxRecDepth 100000 in
set_option maxHeartbeats 8000000 in
theorem due_ok (w : World) (mean mg mb) (ws : List Nat) (wvs lvs : List Value) (ls : List Str) (hw : IntsAre wvs (nums ws)) (hwl : ws.length = 6) (hwm : ∀ x ∈ ws, x ≤ 5) (hls : StrsAre lvs ls) (hll : ls.length ≤ 30) (hdeg : ∀ z ∈ ws.zip marks, (ls.filter fun l => Txt.contains l ⟨#[z.2]⟩).length ≤ z.1)
    (aw al : Addr) (n n' : Nat) (rest : Led) (hmw : (aw, lst wvs n) ∈ rest) (hml : (al, lst lvs n') ∈ rest) :
    CallsTo w mean mg mb 108 [.ref aw, .ref al] [] 1 rest (fun v n' => n' = rest ∧ ∃ t, v = .str (Txt.join (Str.ofString "") ((ws.zip marks).map (dueRow ls))) t) := by
  w_top off
  refine calls_introD (need := 0) [("links", .ref al), ("wishes", .ref aw)] [("links", .ref al), ("wishes", .ref aw)] [] (fun n => [("mark", n)]) rfl rfl (fun _ => rfl) (fun _ => rfl) (fun n x hx => .inl (locs rfl x hx)) (by decide) rfl rfl rfl rfl rfl ?_
  dsimp only [KK, looseL, prog]
  k_fill
  intro dp un gd outer A₀ base g L h₁ s₀ cells B F X N CA lt T hd hu
  obtain ⟨oc, rfl, hoc⟩ := CA.one
  replace hoc : oc.data = .cell none := hoc
  replace N : News g L h₁ ((L + 1, oc) :: rest) := N
  walk_at "goj"
  refine for_start ?_
  walk_at "goj"
  rename_i q h1 hqL h2 F1 N1
  refine call_zipS (by decide +kernel) F1 N1 (News.isList N1 (.tail _ (.tail _ hmw))) ?_
  intro I o1 o2 h3 i1 i2 ltI lI F2 N2
  refine iter_zip N2 ?_
  have hI1 : ∀ (vq : List Value) (nq : Nat) (oc : Obj), ∀ p ∈ (q, lst vq nq) :: (L + 1, oc) :: rest, ZOff I p.1 := fun vq nq oc p hp => zoff_lt (by
    rcases List.mem_cons.mp hp with rfl | hp
    · exact show q < I from ltI _ (.head _)
    · rcases List.mem_cons.mp hp with rfl | hp
      · exact show L + 1 < I from ltI _ (.tail _ (.head _))
      · exact ltI p (.tail _ (.tail _ hp)))
  refine for_ind (ι := Nat) (fun j s' => ∃ h tk' vq nq a b o1 o2 oc cv, ∃ ex : List (Str × Value), s' = { s₀ with heap := h, toks := tk' } ∧ Fr g L h (BX [("rows", .ref q), ("links", .ref al), ("wishes", .ref aw)] ex) ∧
    News g L h (zfr I .none a b o1 o2 ++ (q, lst vq nq) :: (L + 1, oc) :: rest) ∧ oc.data = .cell cv ∧ IterS o1 (Str.ofString "abcdef") tk j ∧ IterL o2 aw j ∧ StrsAre vq (((ws.zip marks).take j).map (dueRow ls)) ∧ j ≤ 6) (fun j => 6 - j) PassesOwn.never ?step 0 ?init
  case init =>
    refine ⟨_, _, [], _, _, _, o1, o2, _, _, ?_, rfl, fr_of F2 ?e, N2, hoc, i1, i2, .nil, by omega⟩
    case e => walk_at "fx"
  case step =>
    rintro j s' ⟨h, tk', vq, nq, a, b, o1, o2, oc, cv, ex, rfl, F, N, hoc, i1, i2, hs, hj⟩ IH
    by_cases hlt : j < 6
    ·
      obtain ⟨x, hx⟩ : ∃ x, ws[j]? = some x := ⟨ws[j], List.getElem?_eq_getElem (by omega)⟩
      obtain ⟨c, hc⟩ : ∃ c, marks[j]? = some c := ⟨marks[j]'(by simpa [marks] using hlt), List.getElem?_eq_getElem (by simpa [marks] using hlt)⟩
      obtain ⟨tx, hv⟩ := hw.get j (x : Int) (by simp [hx])
      refine next_zip F N (hI1 _ _ _) i1 i2 (zoff_lt lI) (News.isList (items := wvs.toArray) N (List.mem_append_right _ (.tail _ (.tail _ hmw)))) (c := c) (by rw [abc_cps]; simpa using hc) (by simpa using hv) ?_
      intro T' h4 tk4 u o1' o2' i1' i2' ltT F4 N4
      refine unpackN_ F4 N4 ⟨_, (N4 _ (.head _)).1, rfl, _, rfl⟩ rfl rfl rfl ?_
      intro h5 F5 N5
      walk_at "goj"
      refine storeC (led := (T', prO (.str ⟨#[c]⟩ u) (.int x tx)) :: (zfr I .none (.str ⟨#[c]⟩ u) (.int x tx) o1' o2' ++ (q, lst vq nq) :: rest)) F5 (news_sub N5 ?_) ?_ rfl hoc rfl rfl ?_
      · intro p hp; simp only [List.mem_cons, List.mem_append] at hp ⊢; rcases hp with h | h | h | h | h <;> simp [h]
      · intro p hp
        have hLI : L + 1 < I := ltI _ (.tail _ (.head _))
        simp only [List.mem_cons, List.mem_append] at hp
        rcases hp with h | h | h | h
        · rw [h]; exact Nat.ne_of_gt (ltT (L + 1, oc) (List.mem_append_right _ (.tail _ (.head _))))
        · exact Nat.ne_of_gt (Nat.lt_of_lt_of_le hLI (zfr_ge h))
        · rw [h]; exact Nat.ne_of_gt hqL.1
        · exact Nat.ne_of_lt (Nat.lt_succ_of_lt (lt p h))
      intro h6 oc' F6 N6 hoc'
      walk_at "gok"
      rename_i h7 F7 N7
      refine comp_free (cl := [("mark", L + 1)]) (fun v => match v with | .str l _ => Txt.contains l ⟨#[c]⟩ | _ => false) (fun v y => v = y) rfl (by decide) rfl (by decide) rfl ?_
      walk_at "gok"
      have hil : h7.IsList al lvs.toArray := News.isList (items := lvs.toArray) N7 (.tail _ (.tail _ (List.mem_append_right _ (.tail _ hml))))
      refine iter_walk_list rfl F7 N7 hil (by rw [StrsAre.length hls]; omega) ?_ ?_ ?_
      · intro C v s₃ m₃ E' hv hns hm hk hC
        obtain ⟨i, hi⟩ := List.getElem?_of_mem hv
        obtain ⟨y, ty, rfl, hy⟩ := hls.item i v hi
        exact test_one (mark_in rfl rfl rfl ⟨oc', hk _ _ (N7 _ (.head _)).1, hoc'⟩ rfl hns hm (by decide) (by decide))
      · intro C v s₃ m₃ E' hv hp hns hm hk hC
        exact wpAny_Name (wpAny_loadName_local rfl rfl hns hm ⟨rfl, keeps_refl _⟩) (by decide)
      intro D h8 tk8 ys k8 F8 N8 hD hpair
      have hys : StrsAre ys (ls.filter fun l => Txt.contains l ⟨#[c]⟩) := by rw [paired_eq hpair]; exact strs_filter (fun _ _ => rfl) hls
      generalize hcnt : (ls.filter fun l => Txt.contains l ⟨#[c]⟩) = lc at hys
      have hlc : lc.length ≤ 30 := by rw [← hcnt]; exact Nat.le_trans (List.length_filter_le _ _) hll
      have hz : (ws.zip marks)[j]? = some (x, c) := by rw [List.getElem?_zip_eq_some]; exact ⟨hx, hc⟩
      have hkx : lc.length ≤ x := by rw [← hcnt]; exact hdeg (x, c) (List.mem_of_getElem? hz)
      have hx5 : x ≤ 5 := hwm x (List.mem_of_getElem? hx)
      have hsub : (x : Int) - (lc.length : Int) = ((x - lc.length : Nat) : Int) := by omega
      have hlk : lack ls (x, c) = x - lc.length := by unfold lack; rw [hcnt]
      walk_at "gok"
      refine len_strsA (News.isList N8 (.head _)) hys (by omega) ?_
      walk_at "gok"
      all_goals
        refine append_str (vs := vq) (n := nq) (led := (L + 1, oc') :: (zfr I .none (.str ⟨#[c]⟩ u) (.int x tx) o1' o2' ++ rest)) (by assumption) (news_sub (by assumption) ?sub) ?ne hs ?len ?_
        case sub => intro p hp; simp only [List.mem_cons, List.mem_append] at hp ⊢; rcases hp with h | h | h | h <;> simp [h]
        case ne =>
          intro p hp
          simp only [List.mem_cons, List.mem_append] at hp
          rcases hp with h | h | h
          · rw [h]; exact Nat.ne_of_lt hqL.1
          · exact Nat.ne_of_gt (Nat.lt_of_lt_of_le (show q < I from ltI _ (.head _)) (zfr_ge h))
          · exact Nat.ne_of_lt (Nat.lt_trans (lt p h) (Nat.lt_of_succ_lt hqL.1))
        case len => rw [List.length_map, List.length_take]; omega
        intro h9 v9 hs9 F9 N9
        walk_at "gok"
        refine IH (j + 1) _ (by omega) ⟨_, _, v9, nq + 1, .str ⟨#[c]⟩ u, .int x tx, o1', o2', oc', _, ?_, rfl, fr_of F9 ?e, ?n, hoc', i1', i2', ?s, by omega⟩
        case e => walk_at "fx"
        case n =>
          refine news_sub N9 fun p hp => ?_
          simp only [List.mem_cons, List.mem_append] at hp ⊢; rcases hp with h | h | h | h <;> simp [h]
        case s =>
          rw [List.take_add_one, hz, Option.toList_some, List.map_append]
          rw [List.map_cons, List.map_nil]
          first
            | (rw [due_zero (hlk.trans (by omega))]; exact hs9)
            | (rw [due_pos hlk (by omega) (by omega), ← hsub]; exact hs9)
    · refine next_zip_end (l := aw) rfl F N (hI1 _ _ _) i1 (zoff_lt lI) ?_ ?_
      · rw [abc_cps]
        have : j = 6 := by omega
        subst this
        rfl
      intro h4 F4 N4
      have : j = 6 := by omega
      subst this
      rw [List.take_of_length_le (by rw [List.length_zip]; omega)] at hs
      clear IH i1 i2 N F
      walk_at "gok"
      refine join_list (News.isList N4 (.head _)) hs ?_ ?_
      · rw [show (Str.ofString "").length = 0 by decide +kernel, Nat.mul_zero, Nat.add_zero]
        refine Nat.le_trans (sum_le (k := 10) ?_) ?_
        · intro y hy
          obtain ⟨z, hz, rfl⟩ := List.mem_map.mp hy
          exact dueRow_len (hwm _ (List.of_mem_zip (show (z.1, z.2) ∈ _ from hz)).1)
        · rw [List.length_map, List.length_zip]; omega
      intro t9 k9
      refine ⟨_, _, _, rest, rfl, F4, news_sub N4 (fun p hp => .tail _ (.tail _ hp)), rfl, _, rfl⟩
end Mine
end
section
open PySem PySem.Sre
namespace Mine
def C1 : Array Nat := #[14, 4, 0, 1, 1, 6, 1, 16, 46, 1]
/-- the machine of the first pattern about to try at s -/
def S1 (text : Array Nat) (lim s : Nat) (first : Bool) (seen : Seen) : M :=
  { code := C1, text, lim, start := s, lastStart := lim, pc := 5, pos := s, handed := s, outermost := first, marks := #[], frames := [{ wait := .nextStart, pc := 5, pos := s, outermost := first }], weight := 1, seen }
theorem runFor_add (a b : Nat) (m : M) : M.runFor (a + b) m = M.runFor b (M.runFor a m) := by
  induction a generalizing m with
  | zero => simp [M.runFor]
  | succ a ih =>
    rw [Nat.succ_add]
    show (if m.outcome.isSome then m else M.runFor (a + b) m.step) = M.runFor b (if m.outcome.isSome then m else M.runFor a m.step)
    by_cases h : m.outcome.isSome
    · rw [if_pos h, if_pos h]
      cases b with
      | zero => rfl
      | succ b => show m = (if m.outcome.isSome then m else _); rw [if_pos h]
    · rw [if_neg h, if_neg h, ih]
theorem step1_start {text : Array Nat} {lim p : Nat} (hp : p < lim) : forSearch C1 text 0 p lim false = S1 text lim p true (({} : Seen).add 14) := by
  have e2 : ¬ (decide (p > lim) || decide (lim - p < 1)) = true := by simp; omega
  show (if (decide (p > lim) || decide (lim - p < (header C1).1)) = true then _ else _) = _
  rw [show (header C1).1 = 1 from rfl, if_neg e2]
  rfl
theorem s1_at {text : Array Nat} {lim s : Nat} {f : Bool} {seen : Seen} : M.step (S1 text lim s f seen) =
    (if (s == 0 || text.getD (s - 1) 0 == 10) = true then { S1 text lim s f ((seen.add 6).add 44) with pc := 7 } else (S1 text lim s f ((seen.add 6).add 44)).say false) := rfl
theorem s1_say {text : Array Nat} {lim s : Nat} {f : Bool} {seen : Seen} : M.step ((S1 text lim s f seen).say false) =
    (if s < lim then S1 text lim (s + 1) false seen else ({ S1 text lim s f seen with frames := [], weight := 0 } : M).say false) := rfl
theorem s1_lit {text : Array Nat} {lim s : Nat} {f : Bool} {seen : Seen} : M.step { S1 text lim s f seen with pc := 7 } =
    (if s ≥ lim then M.say { S1 text lim s f (seen.add 16) with pc := 7 } false else match Except.ok (text.getD s 0 == 46, seen.add 16) with
      | .error why => M.stick { S1 text lim s f (seen.add 16) with pc := 7 } why
      | .ok (false, seen') => M.say { S1 text lim s f seen' with pc := 7 } false
      | .ok (true, seen') => { S1 text lim s f seen' with pc := 9, pos := s + 1 }) := rfl
theorem s1_say7 {text : Array Nat} {lim s : Nat} {f : Bool} {seen : Seen} : M.step (M.say { S1 text lim s f seen with pc := 7 } false) =
    (if s < lim then S1 text lim (s + 1) false seen else ({ S1 text lim s f seen with frames := [], weight := 0 } : M).say false) := rfl
theorem s1_end {text : Array Nat} {lim s : Nat} {f : Bool} {seen : Seen} : M.step (M.say { S1 text lim s f seen with frames := [], weight := 0 } false) =
    M.say { S1 text lim s f seen with frames := [], weight := 0, outcome := some .failed } false := rfl
theorem s1_win {text : Array Nat} {lim s : Nat} {f : Bool} {seen : Seen} : ((M.runFor 3 { S1 text lim s f seen with pc := 9, pos := s + 1 }).outcome = some .matched ∧
    (M.runFor 3 { S1 text lim s f seen with pc := 9, pos := s + 1 }).start = s ∧ (M.runFor 3 { S1 text lim s f seen with pc := 9, pos := s + 1 }).handed = s + 1) := by
  cases f <;> exact ⟨rfl, rfl, rfl⟩
/-- the first pattern's match at s -/
def at1 (text : Array Nat) (s : Nat) : Bool := (s == 0 || text.getD (s - 1) 0 == 10) && text.getD s 0 == 46
/-- the machine's end: found at q, of length one -/
def Won (m : M) (q : Nat) : Prop := m.outcome = some .matched ∧ m.start = q ∧ m.handed = q + 1
theorem run_one (m : M) (h : m.outcome = none) (n : Nat) : M.runFor (n + 1) m = M.runFor n m.step := by
  show (if m.outcome.isSome then m else M.runFor n m.step) = _
  rw [if_neg (by rw [h]; simp)]
theorem s1_try {text : Array Nat} {lim s : Nat} {f : Bool} {seen : Seen} (hs : s < lim) :
    (at1 text s = true → Won (M.runFor 5 (S1 text lim s f seen)) s) ∧ (at1 text s = false → ∃ n ≤ 3, ∃ seen', M.runFor n (S1 text lim s f seen) = S1 text lim (s + 1) false seen') := by
  unfold at1
  constructor
  · intro h
    obtain ⟨h1, h2⟩ := Bool.and_eq_true_iff.mp h
    rw [run_one _ rfl, s1_at, if_pos h1, run_one _ rfl, s1_lit, if_neg (by omega), h2]
    exact s1_win
  · intro h
    cases h1 : (s == 0 || text.getD (s - 1) 0 == 10) with
    | false =>
      refine ⟨2, by omega, (seen.add 6).add 44, ?_⟩
      rw [run_one _ rfl, s1_at, if_neg (by rw [h1]; simp), run_one _ rfl, s1_say, if_pos hs]
      rfl
    | true =>
      rw [h1, Bool.true_and] at h
      refine ⟨3, by omega, ((seen.add 6).add 44).add 16, ?_⟩
      rw [run_one _ rfl, s1_at, if_pos h1, run_one _ rfl, s1_lit, if_neg (by omega), h]
      rw [run_one _ rfl, s1_say7, if_pos hs]
      rfl
theorem s1_last {text : Array Nat} {lim : Nat} {f : Bool} {seen : Seen} : ∃ n ≤ 5, (M.runFor n (S1 text lim lim f seen)).outcome = some .failed := by
  cases h1 : (lim == 0 || text.getD (lim - 1) 0 == 10) with
  | false =>
    refine ⟨3, by omega, ?_⟩
    rw [run_one _ rfl, s1_at, if_neg (by rw [h1]; simp), run_one _ rfl, s1_say, if_neg (by omega), run_one _ rfl, s1_end]
    rfl
  | true =>
    refine ⟨4, by omega, ?_⟩
    rw [run_one _ rfl, s1_at, if_pos h1, run_one _ rfl, s1_lit, if_pos (by omega), run_one _ rfl, s1_say7, if_neg (by omega), run_one _ rfl, s1_end]
    rfl
/-- how a search ends: at the first place that fits, or not at all -/
def Ends (p : Nat → Bool) (s lim : Nat) (m : M) : Prop :=
  (∃ q, s ≤ q ∧ q < lim ∧ p q = true ∧ (∀ r, s ≤ r → r < q → p r = false) ∧ Won m q) ∨ ((∀ r, s ≤ r → r < lim → p r = false) ∧ m.outcome = some .failed)
theorem s1_run {text : Array Nat} {lim : Nat} : ∀ (d s : Nat) (f : Bool) (seen : Seen), s + d = lim → ∃ n ≤ 5 * (d + 1), Ends (at1 text) s lim (M.runFor n (S1 text lim s f seen)) := by
  intro d
  induction d with
  | zero =>
    intro s f seen h
    have : s = lim := by omega
    subst this
    obtain ⟨n, hn, ho⟩ := s1_last (text := text) (lim := s) (f := f) (seen := seen)
    exact ⟨n, by omega, .inr ⟨fun r h1 h2 => by omega, ho⟩⟩
  | succ d ih =>
    intro s f seen h
    have hs : s < lim := by omega
    obtain ⟨t1, t2⟩ := s1_try (text := text) (f := f) (seen := seen) hs
    cases hp : at1 text s with
    | true => exact ⟨5, by omega, .inl ⟨s, Nat.le_refl _, hs, hp, fun r h1 h2 => by omega, t1 hp⟩⟩
    | false =>
      obtain ⟨n, hn, seen', e⟩ := t2 hp
      obtain ⟨k, hk, E⟩ := ih (s + 1) false seen' (by omega)
      refine ⟨n + k, by omega, ?_⟩
      rw [runFor_add, e]
      rcases E with ⟨q, q1, q2, q3, q4, q5⟩ | ⟨q1, q2⟩
      · refine .inl ⟨q, by omega, q2, q3, fun r h1 h2 => ?_, q5⟩
        by_cases hr : r = s
        · rw [hr]; exact hp
        · exact q4 r (by omega) h2
      · refine .inr ⟨fun r h1 h2 => ?_, q2⟩
        by_cases hr : r = s
        · rw [hr]; exact hp
        · exact q1 r (by omega) h2
end Mine
end
section
open PySem PySem.Sre
namespace Mine
def C2 : Array Nat := #[14, 9, 4, 1, 2, 16, 10, 16, 13, 0, 7, 7, 16, 13, 16, 10, 15, 18, 5, 16, 10, 15, 13, 11, 16, 13, 5, 5, 0, 16, 10, 1, 15, 2, 0, 1]
def S2 (text : Array Nat) (lim s : Nat) (first : Bool) (seen : Seen) : M :=
  { code := C2, text, lim, start := s, lastStart := lim, pc := 10, pos := s, handed := s, outermost := first, marks := #[], frames := [{ wait := .nextStart, pc := 10, pos := s, outermost := first }], weight := 1, seen }
/-- the machine before it looks for a place -/
def Z2 (text : Array Nat) (lim p : Nat) : M :=
  { code := C2, text, lim, start := p, lastStart := lim, pc := 10, pos := p, handed := p, marks := #[], seen := ({} : Seen).add 14 }
theorem s2_start {text : Array Nat} {lim p : Nat} (hp : p < lim) : forSearch C2 text 0 p lim false = (Z2 text lim p).attemptFrom p true := by
  have e2 : ¬ (decide (p > lim) || decide (lim - p < 1)) = true := by simp; omega
  show (if (decide (p > lim) || decide (lim - p < (header C2).1)) = true then _ else _) = _
  rw [show (header C2).1 = 1 from rfl, if_neg e2]
  rfl
theorem inSet2 (c : Nat) (seen : Seen) : ∃ s1 s2 s3, inSet C2 c C2.size 5 true seen = (if c == 10 then .ok (true, s1) else if c == 13 then .ok (true, s2) else .ok (false, s3)) := ⟨_, _, _, rfl⟩
theorem admitted2 {text : Array Nat} {lim p : Nat} (hno : ∀ r, r < lim → text.getD r 0 ≠ 13) : ∀ (d s : Nat) (seen : Seen), s + d = lim + 1 →
    (∃ q seen', s ≤ q ∧ q < lim ∧ text.getD q 0 = 10 ∧ (∀ r, s ≤ r → r < q → text.getD r 0 ≠ 10) ∧ M.admitted (Z2 text lim p) d s seen = .ok (some q, seen')) ∨
    ((∀ r, s ≤ r → r < lim → text.getD r 0 ≠ 10) ∧ ∃ seen', M.admitted (Z2 text lim p) d s seen = .ok (none, seen')) := by
  intro d
  induction d with
  | zero => intro s seen h; exact .inr ⟨fun r h1 h2 => by omega, seen, rfl⟩
  | succ d ih =>
    intro s seen h
    obtain ⟨a, b, c, e⟩ := inSet2 (text.getD s 0) seen
    have step : M.admitted (Z2 text lim p) (d + 1) s seen = (if s ≥ lim then .ok (none, seen) else match inSet C2 (text.getD s 0) C2.size 5 true seen with
      | .ok (true, seen) => .ok (some s, seen)
      | .ok (false, seen) => M.admitted (Z2 text lim p) d (s + 1) seen
      | .error why => .error why) := rfl
    rw [step]
    by_cases hs : s ≥ lim
    · rw [if_pos hs]
      exact .inr ⟨fun r h1 h2 => by omega, seen, rfl⟩
    · rw [if_neg hs, e]
      by_cases h10 : text.getD s 0 = 10
      · rw [if_pos (by simp [h10])]
        exact .inl ⟨s, a, Nat.le_refl _, by omega, h10, fun r h1 h2 => by omega, rfl⟩
      · rw [if_neg (fun q => h10 (beq_iff_eq.mp q)), if_neg (fun q => hno s (by omega) (beq_iff_eq.mp q))]
        rcases ih (s + 1) c (by omega) with ⟨q, seen', q1, q2, q3, q4, q5⟩ | ⟨q1, seen', q2⟩
        · refine .inl ⟨q, seen', by omega, q2, q3, fun r h1 h2 => ?_, q5⟩
          by_cases hr : r = s
          · rw [hr]; exact h10
          · exact q4 r (by omega) h2
        · refine .inr ⟨fun r h1 h2 => ?_, seen', q2⟩
          by_cases hr : r = s
          · rw [hr]; exact h10
          · exact q1 r (by omega) h2
theorem s2_from {text : Array Nat} {lim p : Nat} : (Z2 text lim p).attemptFrom p true = (match M.admitted (Z2 text lim p) (lim + 1 - p) p (({} : Seen).add 14) with
    | .ok (some s, seen) => S2 text lim s true seen
    | .ok (none, seen) => M.say { Z2 text lim p with seen } false
    | .error why => (Z2 text lim p).stick why) := by
  show (match M.admitted (Z2 text lim p) (lim + 1 - p) p (({} : Seen).add 14) with
    | .ok (some s, seen) => M.attemptAt { Z2 text lim p with mustAdvance := false, seen } s true
    | .ok (none, seen) => M.say { Z2 text lim p with seen } false
    | .error why => (Z2 text lim p).stick why) = _
  split <;> rfl
/-- at a line's end: the first branch falls, the second holds -/
def T2 (text : Array Nat) (lim s : Nat) (seen : Seen) : M :=
  { S2 text lim s true seen with pc := 19, frames := [{ wait := .nextBranch, pc := 18, pos := s, outermost := true, kept := { lastmark := -1, lastindex := -1, whole := false, marks := #[] } }, { wait := .nextStart, pc := 10, pos := s, outermost := true }], weight := 2 }
theorem s2_branch {text : Array Nat} {lim s : Nat} {seen : Seen} (hs : s < lim) (h : text.getD s 0 = 10) : ∃ seen', M.runFor 3 (S2 text lim s true seen) = T2 text lim s seen' := by
  refine ⟨(seen.add 7).add 16, ?_⟩
  have e1 : M.step (S2 text lim s true seen) = { S2 text lim s true (seen.add 7) with pc := 12, frames := [{ wait := .nextBranch, pc := 11, pos := s, outermost := true, kept := { lastmark := -1, lastindex := -1, whole := false, marks := #[] } }, { wait := .nextStart, pc := 10, pos := s, outermost := true }], weight := 2 } := rfl
  rw [run_one _ rfl, e1, run_one _ rfl]
  have e2 : ∀ seen, M.step { S2 text lim s true seen with pc := 12, frames := [{ wait := .nextBranch, pc := 11, pos := s, outermost := true, kept := { lastmark := -1, lastindex := -1, whole := false, marks := #[] } }, { wait := .nextStart, pc := 10, pos := s, outermost := true }], weight := 2 } =
      (if s ≥ lim then _ else match Except.ok (text.getD s 0 == 13, seen.add 16) with
        | .error why => M.stick { S2 text lim s true (seen.add 16) with pc := 12, frames := [{ wait := .nextBranch, pc := 11, pos := s, outermost := true, kept := { lastmark := -1, lastindex := -1, whole := false, marks := #[] } }, { wait := .nextStart, pc := 10, pos := s, outermost := true }], weight := 2 } why
        | .ok (false, seen') => M.say { S2 text lim s true seen' with pc := 12, frames := [{ wait := .nextBranch, pc := 11, pos := s, outermost := true, kept := { lastmark := -1, lastindex := -1, whole := false, marks := #[] } }, { wait := .nextStart, pc := 10, pos := s, outermost := true }], weight := 2 } false
        | .ok (true, seen') => _) := fun _ => rfl
  rw [e2, if_neg (by omega), show (text.getD s 0 == 13) = false by rw [h]; rfl]
  rfl
theorem s2_w1 {text : Array Nat} {lim s : Nat} {seen : Seen} : M.step { T2 text lim s seen with pc := 21, pos := s + 1 } = { T2 text lim s (seen.add 15) with pc := 35, pos := s + 1 } := rfl
theorem s2_w2 {text : Array Nat} {lim s : Nat} {seen : Seen} : M.step { T2 text lim s seen with pc := 35, pos := s + 1 } = M.say { T2 text lim s (seen.add 1) with pc := 35, pos := s + 1, handed := s + 1 } true := rfl
theorem s2_w3 {text : Array Nat} {lim s : Nat} {seen : Seen} : M.step (M.say { T2 text lim s seen with pc := 35, pos := s + 1, handed := s + 1 } true) = M.say { S2 text lim s true seen with pc := 18, handed := s + 1 } true := rfl
theorem s2_w4 {text : Array Nat} {lim s : Nat} {seen : Seen} : M.step (M.say { S2 text lim s true seen with pc := 18, handed := s + 1 } true) = M.say { S2 text lim s true seen with handed := s + 1, frames := [], weight := 0 } true := rfl
theorem s2_w5 {text : Array Nat} {lim s : Nat} {seen : Seen} : Won (M.step (M.say { S2 text lim s true seen with handed := s + 1, frames := [], weight := 0 } true)) s := ⟨rfl, rfl, rfl⟩
theorem s2_win {text : Array Nat} {lim s : Nat} {seen : Seen} (hs : s < lim) (h : text.getD s 0 = 10) : Won (M.runFor 7 (T2 text lim s seen)) s := by
  have e2 : M.step (T2 text lim s seen) = (if s ≥ lim then _ else match (Except.ok (text.getD s 0 == 10, seen.add 16) : Except String (Bool × Seen)) with
        | .error why => M.stick (T2 text lim s (seen.add 16)) why
        | .ok (false, seen') => M.say (T2 text lim s seen') false
        | .ok (true, seen') => { T2 text lim s seen' with pc := 21, pos := s + 1 }) := rfl
  rw [run_one _ rfl, e2, if_neg (by omega), show (text.getD s 0 == 10) = true by rw [h]; rfl]
  show Won (M.runFor 6 { T2 text lim s (seen.add 16) with pc := 21, pos := s + 1 }) s
  rw [run_one _ rfl, s2_w1, run_one _ rfl, s2_w2, run_one _ rfl, s2_w3, run_one _ rfl, s2_w4, run_one _ rfl]
  have := s2_w5 (text := text) (lim := lim) (s := s) (seen := ((seen.add 16).add 15).add 1)
  unfold M.runFor
  split
  · exact this
  · rename_i hn; exact absurd (by rw [this.1]; rfl) hn
theorem s2_run {text : Array Nat} {lim p : Nat} (hp : p < lim) (hno : ∀ r, r < lim → text.getD r 0 ≠ 13) : ∃ n ≤ 10, Ends (fun r => text.getD r 0 == 10) p lim (M.runFor n (forSearch C2 text 0 p lim false)) := by
  rw [s2_start hp, s2_from]
  rcases admitted2 (p := p) hno (lim + 1 - p) p (({} : Seen).add 14) (by omega) with ⟨q, seen', q1, q2, q3, q4, q5⟩ | ⟨q1, seen', q2⟩
  · rw [q5]
    obtain ⟨seen2, e⟩ := s2_branch (seen := seen') q2 q3
    refine ⟨10, by omega, .inl ⟨q, q1, q2, by simp [q3], fun r h1 h2 => beq_eq_false_iff_ne.mpr (q4 r h1 h2), ?_⟩⟩
    rw [show (10 : Nat) = 3 + 7 from rfl, runFor_add]
    show Won (M.runFor 7 (M.runFor 3 (S2 text lim q true seen'))) q
    rw [e]
    exact s2_win q2 q3
  · rw [q2]
    refine ⟨1, by omega, .inr ⟨fun r h1 h2 => beq_eq_false_iff_ne.mpr (q1 r h1 h2), rfl⟩⟩
end Mine
end
section
open PySem PySem.Sre PySem.Builtin.Re PySem.W PySem.Calls PyProof.Rows
namespace Mine
theorem stable {m : M} (h : m.outcome.isSome = true) (k : Nat) : M.runFor k m = m := by
  cases k with
  | zero => rfl
  | succ k => show (if m.outcome.isSome then m else _) = m; rw [if_pos h]
section
variable {Mo : Model} {A : Around} {E : Value → Shared → Prop} {s : Shared}
theorem drive {Q : M → Shared → Prop} : ∀ (turns : Nat) (m : M) (n : Nat), (M.runFor n m).outcome.isSome = true → n < 4 * turns → Q (M.runFor n m) s → wpAny Mo A (reDrive turns m) Q E s
  | 0, m, n, h, hn, hq => by omega
  | turns + 1, m, n, h, hn, hq => by
    show wpAny Mo A (if (m.runFor 4).outcome.isSome = true then pure (m.runFor 4) else do rule "sre.turn"; reDrive turns (m.runFor 4)) Q E s
    by_cases h4 : (m.runFor 4).outcome.isSome = true
    · rw [if_pos h4]
      refine wpAny_pure ?_
      have e : M.runFor 4 m = M.runFor n m := by
        by_cases hle : n ≤ 4
        · rw [show (4 : Nat) = n + (4 - n) by omega, runFor_add, stable h]
        · rw [show n = 4 + (n - 4) by omega, runFor_add, stable h4]
      rw [e]; exact hq
    · rw [if_neg h4]
      refine wpAny_bind (wpAny_rule ?_)
      have hgt : 4 < n := by
        by_cases hle : n ≤ 4
        · rw [show (4 : Nat) = n + (4 - n) by omega, runFor_add, stable h] at h4
          exact absurd h h4
        · omega
      have e : M.runFor n m = M.runFor (n - 4) (M.runFor 4 m) := by rw [← runFor_add]; congr 1; omega
      rw [e] at h hq
      exact drive turns _ (n - 4) h (by omega) hq
theorem only_rules {m : M} {Q : PUnit → Shared → Prop} (hq : Q ⟨⟩ s) : ∀ l : List Nat, wpAny Mo A (forIn l PUnit.unit fun i _ => do
      if m.seen.has i = true then do rule (Sre.names.getD i ""); pure (ForInStep.yield PUnit.unit) else pure (ForInStep.yield PUnit.unit)) Q E s
  | [] => by rw [List.forIn_nil]; exact wpAny_pure hq
  | i :: l => by
    rw [List.forIn_cons]
    refine wpAny_bind ?_
    split
    · exact wpAny_bind (wpAny_rule (wpAny_pure (only_rules hq l)))
    · exact wpAny_pure (only_rules hq l)
theorem runToEnd {m : M} {n : Nat} {Q : Option M → Shared → Prop} (hn : n ≤ 2 ^ 60)
    (h : ((M.runFor n m).outcome = some .matched ∧ Q (some (M.runFor n m)) s) ∨ ((M.runFor n m).outcome = some .failed ∧ Q none s)) : wpAny Mo A (reRunToEnd m) Q E s := by
  unfold reRunToEnd
  refine wpAny_bind (drive _ m n (by rcases h with h | h <;> rw [h.1] <;> rfl) (by omega) ?_)
  refine wpAny_bind (only_rules ?_ _)
  rcases h with h | h
  · rw [h.1]; exact wpAny_pure h.2
  · rw [h.1]; exact wpAny_pure h.2
end
end Mine
end
section
open PySem PySem.Sre PySem.Builtin.Re PySem.W PySem.Calls PyProof.Rows
set_option maxRecDepth 100000
namespace Mine
theorem slot_sub : Slot "re.Pattern" "sub" "re.Pattern.sub" :=
  .of (owner := "re.Pattern") (n := "sub") (by rw [typeLookup_type, builtinLookup_eq_fast]; kernel_rfl) (by decide +kernel) (by decide +kernel) (by decide +kernel)
    (by first | exact .inl (by decide +kernel) | exact .inr (by decide +kernel)) (by rw [isSubtype_type]; kernel_rfl)
theorem type_sub : typeOf (.builtin "re.Pattern.sub") = pure (.type "method_descriptor") := by show builtinType _ = _; rw [builtinType_eq_fast]; kernel_rfl
theorem entry_sub : entryFor table "re.Pattern.sub" = some Builtin.«re.Pattern.sub» := entryFor_of_tree (by kernel_rfl)
theorem entry_subloop : entryFor table "re.Pattern.sub.loop" = some Builtin.«re.Pattern.sub.loop» := entryFor_of_tree (by kernel_rfl)
theorem args_sub (a b c : Value) : argsOk "re.Pattern.sub" ⟨[a, b, c], []⟩ := by
  unfold argsOk; kernel_rfl
theorem plainAttrs_pat : PlainAttrs "re.Pattern" :=
  ⟨⟨"object.__getattribute__", by rw [typeLookup_type, builtinLookup_eq_fast]; kernel_rfl, by decide +kernel⟩, by rw [typeLookup_type, builtinLookup_eq_fast]; kernel_rfl⟩
def tgt (pat : Addr) (code : Array Nat) (x : Str) (t : Tok) : ReTarget := { pattern := .ref pat, string := .str x t, code := code, text := x.cps, kind := 0, groups := 0, pos := 0, lim := x.cps.size }
theorem peek_tgt1 (w : World) (S : Setting) (x : Str) (t : Tok) : peek (KK w) S (reWholeTarget (.ref 70) (.str x t)) = some (tgt 70 C1 x t) := by kernel_rfl
theorem peek_tgt2 (w : World) (S : Setting) (x : Str) (t : Tok) : peek (KK w) S (reWholeTarget (.ref 75) (.str x t)) = some (tgt 75 C2 x t) := by kernel_rfl
end Mine
end
section
open PySem PySem.Sre PySem.Builtin.Re PySem.W PySem.Calls PyProof.Rows
set_option maxRecDepth 100000
namespace Mine
/-- what stands for the first d signs -/
def upTo (p : Nat → Bool) (r L : List Nat) (d : Nat) : List Nat := (List.range d).flatMap fun k => if p k then r else [L.getD k 0]
theorem upTo_succ (p : Nat → Bool) (r L : List Nat) (d : Nat) : upTo p r L (d + 1) = upTo p r L d ++ (if p d then r else [L.getD d 0]) := by
  unfold upTo
  rw [List.range_succ, List.flatMap_append]
  simp
theorem upTo_slice {p : Nat → Bool} {r L : List Nat} {d : Nat} : ∀ (q : Nat), d ≤ q → q ≤ L.length → (∀ k, d ≤ k → k < q → p k = false) → upTo p r L q = upTo p r L d ++ (L.drop d).take (q - d) := by
  intro q
  induction q with
  | zero => intro hq hl hp; have : d = 0 := by omega
            subst this; simp
  | succ q ih =>
    intro hq hl hp
    by_cases hd : d = q + 1
    · subst hd; simp
    rw [upTo_succ, ih (by omega) (by omega) (fun k h1 h2 => hp k h1 (by omega)), hp q (by omega) (by omega)]
    have e : q + 1 - d = (q - d) + 1 := by omega
    rw [e, List.take_add_one, List.append_assoc]
    congr 1
    have : (L.drop d)[q - d]? = some (L.getD q 0) := by
      rw [List.getElem?_drop, show d + (q - d) = q by omega]
      simp [List.getD, List.getElem?_eq_getElem (show q < L.length by omega)]
    rw [this]
    simp
def cat (ys : List Str) : List Nat := ys.flatMap fun y => y.cps.toList
theorem cat_snoc (ys : List Str) (y : Str) : cat (ys ++ [y]) = cat ys ++ y.cps.toList := by unfold cat; simp
theorem join_cat : ∀ ys : List Str, (Str.join Str.empty ys).cps.toList = cat ys
  | [] => rfl
  | [x] => by simp [Str.join, cat]
  | x :: y :: r => by
    have := join_cat (y :: r)
    show ((x ++ Str.empty ++ Str.join Str.empty (y :: r)) : Str).cps.toList = _
    rw [Str.cps_append, Str.cps_append, Array.toList_append, Array.toList_append, this]
    simp [cat, Str.empty]
theorem join_cat' (a : Array Nat) (ys : List Str) : (Txt.join ⟨a.extract 0 0⟩ ys).cps.toList = cat ys := by
  have e : (⟨a.extract 0 0⟩ : Str) = Str.empty := by show (⟨a.extract 0 0⟩ : Str) = ⟨#[]⟩; simp
  rw [e]
  unfold Txt.join
  rw [StrLaws.glued_eq_join, join_cat]
section
variable {prog : Program} {w : World} {A : Around} {E : Value → Shared → Prop} {s : Shared} {h₀ : Heap} {L : Addr} {m : Loc} {led : Led} {P : Addr}
theorem push_led {ps : List Value} {n : Nat} {v : Value} {Q : Unit → Shared → Prop} (F : Fr h₀ L s.heap m) (N : News h₀ L s.heap ((P, lst ps n) :: led)) (hP : ∀ p ∈ led, p.1 ≠ P) (hl : ps.length ≤ 1000)
    (hq : ∀ h', Fr h₀ L h' m → News h₀ L h' ((P, lst (ps ++ [v]) (n + 1)) :: led) → Q () { s with heap := h' }) : wpAny (model prog w) A (updateSeq P (·.push v)) Q E s := by
  have n1 := N _ (.head _)
  have s1 := Heap.SameBut.update s.heap P (Obj.mapSeq (·.push v))
  refine wpAny_updateSeq n1.1 rfl (hq _ (fr_but F N s1) (news_but N hP s1 ?_)) (by rw [List.size_toArray, sizeLine_eq]; omega) (by simp [sizeLine_eq]; omega)
  have := get?_update_seq (c := "list") n1.1 (·.push v)
  rw [this]
  simp [seqObj, lst]

theorem wp_if {Mo : Model} {α : Type} {c : Prop} {dc : Decidable c} {a b : Sem α} {Q : α → Shared → Prop} (h : c) (H : wpAny Mo A a Q E s) : wpAny Mo A (if c then a else b) Q E s := by rw [if_pos h]; exact H
theorem wp_nif {Mo : Model} {α : Type} {c : Prop} {dc : Decidable c} {a b : Sem α} {Q : α → Shared → Prop} (h : ¬ c) (H : wpAny Mo A b Q E s) : wpAny Mo A (if c then a else b) Q E s := by rw [if_neg h]; exact H
theorem len_cat : ∀ ys : List Str, (ys.map (·.length)).sum = (cat ys).length
  | [] => rfl
  | y :: r => by
    have := len_cat r
    unfold cat at this ⊢
    simp only [List.map_cons, List.sum_cons, List.flatMap_cons, List.length_append, this]
    rfl
theorem upTo_len (p : Nat → Bool) (r L : List Nat) (hr : r.length ≤ 2) : ∀ d, (upTo p r L d).length ≤ 2 * d
  | 0 => by simp [upTo]
  | d + 1 => by
    have := upTo_len p r L hr d
    rw [upTo_succ, List.length_append]
    split <;> simp <;> omega
/-- how the loop of sub ends -/
theorem sub_loop {pat : Addr} {code : Array Nat} {x r : Str} {t u : Tok} {p : Nat → Bool} (X : (KK w).In h₀) (hT : ∀ S, peek (KK w) S (reWholeTarget (.ref pat) (.str x t)) = some (tgt pat code x t))
    (hS : ∀ d ≤ x.cps.size, ∃ n ≤ 2 ^ 60, Ends p d x.cps.size (M.runFor n (forSearch code x.cps 0 d x.cps.size false))) (hx : x.cps.size ≤ 300) (hr : r.cps.toList.length ≤ 2) (hP : ∀ q ∈ led, q.1 ≠ P) {R : Result → Shared → Prop} :
    ∀ (k d : Nat), d + k = x.cps.size → ∀ (c : Int) (s : Shared) (ps : List Value) (ys : List Str) (n : Nat), Fr h₀ L s.heap m → News h₀ L s.heap ((P, lst ps n) :: led) → StrsAre ps ys → cat ys = upTo p r.cps.toList x.cps.toList d → ps.length ≤ 2 * d →
      (∀ (z : Str) t' h' k' ps' n', z.cps.toList = upTo p r.cps.toList x.cps.toList x.cps.size → Fr h₀ L h' m → News h₀ L h' ((P, lst ps' n') :: led) → R (.ok (.ret (.str z t'))) { s with heap := h', toks := k' }) →
      codeAny (model prog w) A (.builtin "re.Pattern.sub.loop" ⟨[.ref pat, .str x t, .str r u, rawInt 0, rawInt 0, rawInt c, rawInt d, rawInt d, .bool false, .ref P, .bool false], []⟩) R s := by
  intro k
  induction k using Nat.strongRecOn with | _ k ih => ?_
  intro d hd c s ps ys n F N hs hc hl hq
  refine codeAny_builtin entry_subloop ?_
  unfold Builtin.«re.Pattern.sub.loop»
  refine wpAny_bind (((Looks.of_peek X (hT _)).keeps F.keep).here ?_)
  refine wp_if rfl (wpAny_bind ?_)
  unfold reLiteralCannotBeTurned
  refine wpAny_bind (wpAny_pure (wp_nif (by simp) (wpAny_pure ?_)))
  refine wpAny_bind (wp_nif (by simp) ?_)
  obtain ⟨n1, hn1, he⟩ := hS d (by omega)
  refine runToEnd (m := forSearch code x.cps 0 d x.cps.size false) hn1 ?_
  rcases he with ⟨q, hq1, hq2, hq3, hq4, hw1, hw2, hw3⟩ | ⟨he1, he2⟩
  · refine .inl ⟨hw1, ?_⟩
    dsimp only
    rw [hw2, hw3, show (q + 1 == q) = false by simp]
    have hadd : ∀ (s' : Shared) (ps : List Value) (ys : List Str) (n : Nat), s' = { s with heap := s'.heap, toks := s'.toks } → Fr h₀ L s'.heap m → News h₀ L s'.heap ((P, lst ps n) :: led) → StrsAre ps ys → cat ys = upTo p r.cps.toList x.cps.toList q → ps.length ≤ 2 * q + 1 →
        wpAny (model prog w) (A.under (.builtin "re.Pattern.sub.loop" ⟨[.ref pat, .str x t, .str r u, rawInt 0, rawInt 0, rawInt c, rawInt d, rawInt d, .bool false, .ref P, .bool false], []⟩))
          (updateSeq P (fun y => y.push (.str r u)) >>= fun _ => again (.builtin "re.Pattern.sub.loop" ⟨[.ref pat, .str x t, .str r u, rawInt 0, rawInt 0, rawInt (c + 1), rawInt ((q + 1 : Nat) : Int), rawInt ((q + 1 : Nat) : Int), .bool false, .ref P, .bool false], []⟩))
          (fun fin s' => match fin with | .done f => R (.ok f) s' | .again c' => c'.quiet = true ∧ codeAny (model prog w) A c' R s') (fun e s' => R (.error e) s') s' := by
      intro s' ps ys n e F N hs hc hl
      refine wpAny_bind (push_led F N hP (by omega) fun h' F' N' => wpAny_pure ⟨Code.quiet_builtin _ (by decide +kernel), ?_⟩)
      refine ih (k - (q + 1 - d)) (by omega) (q + 1) (by omega) (c + 1) _ _ _ _ F' N' (strs_snoc hs) ?_ (by simp; omega) ?_
      · rw [cat_snoc, hc, upTo_succ, hq3]; rfl
      · intro z t' h'' k' ps' n' hz F'' N''
        have := hq z t' h'' k' ps' n' hz F'' N''
        rw [e]; exact this
    by_cases hdq : d < q
    · refine wp_if hdq (wpAny_bind ?_)
      unfold reSlice
      refine wp_if rfl (wpAny_mkStr ?_ ?_)
      · refine wpAny_bind (push_led F N hP (by omega) fun h' F' N' => ?_)
        refine wp_if rfl (wpAny_bind (wpAny_pure (wp_if rfl ?_)))
        refine hadd _ _ _ _ rfl F' N' (strs_snoc hs) ?_ (by simp; omega)
        rw [cat_snoc, hc, upTo_slice q hq1 (by simp; omega) hq4]
        congr 1
        show (x.cps.extract d q).toList = _
        simp
      · rw [sizeLine_eq]; show (x.cps.extract d q).size ≤ _; simp; omega
    · refine wp_nif hdq (wp_if rfl (wpAny_bind (wpAny_pure (wp_if rfl ?_))))
      have e : q = d := by omega
      subst e
      exact hadd _ _ _ _ rfl F N hs hc (by omega)
  · refine .inr ⟨he2, ?_⟩
    dsimp only
    have hend : ∀ (s' : Shared) (ps : List Value) (ys : List Str) (n : Nat), s' = { s with heap := s'.heap, toks := s'.toks } → Fr h₀ L s'.heap m → News h₀ L s'.heap ((P, lst ps n) :: led) → StrsAre ps ys → cat ys = upTo p r.cps.toList x.cps.toList x.cps.size → ps.length ≤ 2 * x.cps.size + 1 →
        wpAny (model prog w) (A.under (.builtin "re.Pattern.sub.loop" ⟨[.ref pat, .str x t, .str r u, rawInt 0, rawInt 0, rawInt c, rawInt d, rawInt d, .bool false, .ref P, .bool false], []⟩))
          (do
            let joiner ← reSlice x.cps 0 0 0
            let text ← if ((← seqItems? (.ref P)).getD #[]).isEmpty then pure joiner else call (.builtin (if (0 == 0) = true then "str.join" else "bytes.join")) [joiner, .ref P]
            if false = true then ret (← holding [text] do newTuple [text, ← mkInt c]) else ret text)
          (fun fin s' => match fin with | .done f => R (.ok f) s' | .again c' => c'.quiet = true ∧ codeAny (model prog w) A c' R s') (fun e s' => R (.error e) s') s' := by
      intro s' ps ys n e F N hs hc hl
      unfold reSlice
      refine wpAny_bind (wp_if rfl (wpAny_mkStr ?_ (by simp [Str.length])))
      have n1 := N _ (.head _)
      refine wpAny_bind (wpAny_seqItems n1.1 rfl ?_)
      by_cases hem : ps = []
      · subst hem
        cases hs
        refine wp_if rfl (wpAny_bind (wpAny_pure (wp_nif (by simp) (wpAny_pure ?_))))
        have := hq ⟨x.cps.extract 0 0⟩ s'.toks s'.heap (s'.toks + 1) _ _ (by rw [← hc]; simp [cat]) F N
        rw [e]; exact this
      · refine wp_nif (by simpa using hem) (wpAny_bind ?_)
        refine join_list (items := ps.toArray) ⟨_, n1.1, rfl, _, rfl⟩ (by simpa using hs) ?_ ?_
        · rw [len_cat, hc]
          have := upTo_len p r.cps.toList x.cps.toList hr x.cps.size
          have : ((⟨x.cps.extract 0 0⟩ : Str)).length = 0 := by simp [Str.length]
          rw [this]; omega
        · intro t' k'
          refine wp_nif (by simp) (wpAny_pure ?_)
          have := hq (Txt.join ⟨x.cps.extract 0 0⟩ ys) t' s'.heap k' _ _ (by rw [← hc]; exact join_cat' _ ys) F N
          rw [e]; exact this
    by_cases hdq : d < x.cps.size
    · refine wp_if hdq (wpAny_bind ?_)
      unfold reSlice
      refine wp_if rfl (wpAny_mkStr ?_ ?_)
      · refine wpAny_bind (push_led F N hP (by omega) fun h' F' N' => ?_)
        refine hend _ _ _ _ rfl F' N' (strs_snoc hs) ?_ (by simp; omega)
        rw [cat_snoc, hc, upTo_slice x.cps.size (by omega) (by simp) he1]
        congr 1
        show (x.cps.extract d x.cps.size).toList = _
        simp
      · rw [sizeLine_eq]; show (x.cps.extract d x.cps.size).size ≤ _; simp; omega
    · refine wp_nif hdq ?_
      have e : d = x.cps.size := by omega
      exact hend _ _ _ _ rfl F N hs (by rw [hc, e]) (by omega)
theorem wpAny_of_pure {Mo : Model} {α : Type} {a : Sem α} {v : α} {Q : α → Shared → Prop} (h : a = pure v) (H : Q v s) : wpAny Mo A a Q E s := by rw [h]; exact wpAny_pure H
theorem str_not_called : typeLookup (.type "str") "__call__" = pure none := by rw [typeLookup_type, builtinLookup_eq_fast]; kernel_rfl
theorem sub_call {pat : Addr} {code : Array Nat} {x r : Str} {t u : Tok} {p : Nat → Bool} {Q : Value → Shared → Prop} (F : Fr h₀ L s.heap m) (N : News h₀ L s.heap led) (X : (KK w).In h₀) (hty : s.TypeIs (.ref pat) "re.Pattern")
    (hT : ∀ S, peek (KK w) S (reWholeTarget (.ref pat) (.str x t)) = some (tgt pat code x t))
    (hS : ∀ d ≤ x.cps.size, ∃ n ≤ 2 ^ 60, Ends p d x.cps.size (M.runFor n (forSearch code x.cps 0 d x.cps.size false))) (hx : x.cps.size ≤ 300) (hr : r.cps.toList.length ≤ 2) (h92 : r.cps.contains 92 = false)
    (hq : ∀ (z : Str) t' h' k' P ps' n', z.cps.toList = upTo p r.cps.toList x.cps.toList x.cps.size → Fr h₀ L h' m → News h₀ L h' ((P, lst ps' n') :: led) → (∀ q ∈ led, q.1 < P) → Q (.str z t') { s with heap := h', toks := k' }) :
    wpAny (model prog w) A (call (.builtin "re.Pattern.sub") [.ref pat, .str r u, .str x t]) Q E s := by
  refine call_meetsIn (S := fun A R s' => s' = s ∧ R = wants Q E) slot_sub hty entry_sub (args_sub _ _ _) ?_ ⟨rfl, rfl⟩
  rintro A R s' ⟨rfl, rfl⟩
  unfold Builtin.«re.Pattern.sub» reSubstitute
  refine wpAny_bind (wpAny_of_pure (show reNamed _ _ _ _ _ _ = pure [some (.str r u), some (.str x t), none] from rfl) ?_)
  refine wpAny_bind (wpAny_pure ?_)
  unfold specialOf
  refine wpAny_bind (wpAny_bind (wpAny_pure (wpAny_of_pure str_not_called ?_)))
  refine wp_nif (by simp) ?_
  refine wpAny_bind (wpAny_pure ?_)
  refine wpAny_bind (wpAny_pure ?_)
  refine wp_nif (by simp) (wp_if (by rw [h92]; rfl) ?_)
  refine wpAny_bind (wpAny_pure ?_)
  refine wpAny_bind (wpAny_holding (((Looks.of_peek X (hT _)).keeps F.keep).here ?_))
  refine wp_nif (by simp) ?_
  refine wpAny_bind (newList_K F N fun P h' F' N' hlt => wpAny_pure ⟨Code.quiet_builtin _ (by decide +kernel), ?_⟩)
  refine sub_loop X hT hS hx hr (fun q hq => Nat.ne_of_lt (hlt q hq)) x.cps.size 0 (by omega) 0 _ [] [] 0 F' N' .nil rfl (by simp) ?_
  intro z t' h' k' ps' n' hz F'' N''
  exact hq z t' h' k' P ps' n' hz F'' N'' hlt
end
theorem all1 {text : Array Nat} (hs : text.size ≤ 300) : ∀ d ≤ text.size, ∃ n ≤ 2 ^ 60, Ends (at1 text) d text.size (M.runFor n (forSearch C1 text 0 d text.size false)) := by
  intro d hd
  by_cases h : d < text.size
  · rw [step1_start h]
    obtain ⟨n, hn, he⟩ := s1_run (text := text) (lim := text.size) (text.size - d) d true _ (by omega)
    exact ⟨n, by omega, he⟩
  · have e : d = text.size := by omega
    subst e
    refine ⟨1, by omega, .inr ⟨fun r h1 h2 => by omega, ?_⟩⟩
    unfold forSearch
    have : (text.size > text.size || text.size - text.size < (header C1).1) = true := by simp; decide
    rw [if_pos this]
    rfl
theorem all2 {text : Array Nat} (hs : text.size ≤ 300) (hno : ∀ r, r < text.size → text.getD r 0 ≠ 13) : ∀ d ≤ text.size, ∃ n ≤ 2 ^ 60, Ends (fun r => text.getD r 0 == 10) d text.size (M.runFor n (forSearch C2 text 0 d text.size false)) := by
  intro d hd
  by_cases h : d < text.size
  · obtain ⟨n, hn, he⟩ := s2_run (text := text) (lim := text.size) (p := d) h hno
    exact ⟨n, by omega, he⟩
  · have e : d = text.size := by omega
    subst e
    refine ⟨1, by omega, .inr ⟨fun r h1 h2 => by omega, ?_⟩⟩
    unfold forSearch
    have : (text.size > text.size || text.size - text.size < (header C2).1) = true := by simp; decide
    rw [if_pos this]
    rfl
end Mine
end
section
open PySem PySem.W PyProof.Rows
set_option pp.deepTerms false
set_option pp.deepTerms.threshold 3
set_option pp.maxSteps 3000
namespace Mine
local macro_rules | `(tactic| walk_at "st") => `(tactic| ((with_reducible show wpAny _ _ _ _ _ _); (fail_if_success (with_reducible show wpAny _ _ (exec (Stmt.While _ _ _ _) _) _ _ _)); (fail_if_success (with_reducible show wpAny _ _ (exec (Stmt.For _ _ _ _ _) _) _ _ _)); (fail_if_success (with_reducible show wpAny _ _ (call (Value.ref _) _ _) _ _ _)); first | (k_unfold; (try dsimp only)) | walk1 | (dsimp only; walk1)))
local macro_rules | `(tactic| walk_at "go") => `(tactic| repeat' walk_at "st")
local macro_rules | `(tactic| walk_at "fr") => `(tactic| (refine' fr_fin ?frl ?frr; (case frl => repeat' (first | with_reducible apply B_cons' | exact rfl)); (case frr => repeat' (first | exact trivial | refine And.intro (by with_unfolding_all rfl) ?_))))
local macro_rules | `(tactic| walk_at "fs") => `(tactic| (unfold fitsSsize; simp; omega))
local macro_rules | `(tactic| walk_at "ret") => `(tactic| (refine ⟨_, _, _, _, rfl, by assumption, by assumption, ?_⟩))
local macro_rules | `(tactic| walk_at "sj") => `(tactic| ((fail_if_success (with_reducible show wpAny _ _ (subscriptTail _ (Expr.Slice _ _ _ _) (Value.ref _) _) _ _ _)); (fail_if_success (with_reducible show wpAny _ _ (call (Value.builtin "len") [Value.ref _]) _ _ _)); (fail_if_success (with_reducible show wpAny _ _ (call (Value.builtin "list.pop") _) _ _ _)); (fail_if_success (with_reducible show wpAny _ _ (call (Value.builtin "list.insert") _) _ _ _)); (fail_if_success (with_reducible show wpAny _ _ (call (Value.builtin "list.append") _) _ _ _));  (fail_if_success (with_reducible show wpAny _ _ (call (Value.builtin "sorted") _ _) _ _ _));  walk_at "sti"))
local macro_rules | `(tactic| walk_at "goj") => `(tactic| repeat' walk_at "sj")
local macro_rules | `(tactic| walk_at "sti") => `(tactic| first | walk_at "st" | ((with_reducible show Frag.In _ _ ∧ _); refine ⟨by k_in, ?_⟩) | ((with_reducible show ite _ _ _); first | (rw [if_pos (by first | rfl | decide)]) | (rw [if_neg (by first | decide | (intro h; cases h))]) | walk1))
local macro_rules | `(tactic| walk_at "goi") => `(tactic| repeat' walk_at "sti")
local macro_rules | `(tactic| walk_at "fx") => `(tactic| (refine' fr_front ?frl ?frr; (case frl => repeat' (first | with_reducible apply B_cons' | exact rfl)); (case frr => repeat' (first | exact trivial | refine And.intro (by with_unfolding_all rfl) ?_))))
theorem pat1 {w : World} {g h : Heap} {L : Addr} {m : Loc} (X : (KK w).In g) (F : Fr g L h m) : ∃ o, h.get? 70 = some o ∧ o.cls = .type "re.Pattern" ∧ o.dict = none := by
  have e : ((KK w).lookup 70).isSome = true ∧ ((KK w).lookup 70).all (fun o => o.cls == .type "re.Pattern" && o.dict.isNone) = true := by constructor <;> kernel_rfl
  obtain ⟨o, ho⟩ := Option.isSome_iff_exists.mp e.1
  refine ⟨o, F.keep _ _ (X _ _ ho), ?_⟩
  have := e.2
  rw [ho] at this
  simpa using this
theorem pat2 {w : World} {g h : Heap} {L : Addr} {m : Loc} (X : (KK w).In g) (F : Fr g L h m) : ∃ o, h.get? 75 = some o ∧ o.cls = .type "re.Pattern" ∧ o.dict = none := by
  have e : ((KK w).lookup 75).isSome = true ∧ ((KK w).lookup 75).all (fun o => o.cls == .type "re.Pattern" && o.dict.isNone) = true := by constructor <;> kernel_rfl
  obtain ⟨o, ho⟩ := Option.isSome_iff_exists.mp e.1
  refine ⟨o, F.keep _ _ (X _ _ ho), ?_⟩
  have := e.2
  rw [ho] at this
  simpa using this
def QuoPost (x : Str) (news : Led) (v : Value) (n' : Led) : Prop := ∃ (y z : Str) (t' : Tok), v = .str z t' ∧ y.cps.toList = upTo (fun r => x.cps.getD r 0 == 10) [13, 10] x.cps.toList x.cps.size ∧ z.cps.toList = upTo (at1 y.cps) [46, 46] y.cps.toList y.cps.size ∧
  ∃ P1 P2 v1 k1 v2 k2, n' = (P2, lst v2 k2) :: (P1, lst v1 k1) :: news ∧ (∀ q ∈ news, q.1 < P1) ∧ P1 < P2
set_option maxRecDepth 100000 in
set_option maxHeartbeats 8000000 in
theorem quo_ok (w : World) (mean mg mb) (x : Str) (t : Tok) (news : Led) (hx : x.cps.size ≤ 100) (hno : ∀ r, r < x.cps.size → x.cps.getD r 0 ≠ 13) : CallsTo w mean mg mb 82 [.str x t] [] 1 news (QuoPost x news) := by
  w_top off
  refine calls_intro (need := 0) [("data", .str x t)] rfl rfl (fun _ => rfl) (locs rfl) (by decide) rfl rfl rfl ?_
  dsimp only [KK, looseL, prog]
  k_fill
  intro dp un gd outer A₀ base g L h₁ s₀ B F X N lt T hd hu
  walk_at "goj"
  obtain ⟨o1, ho1, hc1, hd1⟩ := pat1 X F
  refine getMethod_builtin (T := "re.Pattern") ⟨o1, ho1, hc1⟩ plainAttrs_pat slot_sub type_sub (by rintro _ ⟨⟩; exact ⟨o1, ho1, hd1⟩) ?_
  walk_at "goj"
  obtain ⟨o2, ho2, hc2, hd2⟩ := pat2 X F
  refine getMethod_builtin (T := "re.Pattern") ⟨o2, ho2, hc2⟩ plainAttrs_pat slot_sub type_sub (by rintro _ ⟨⟩; exact ⟨o2, ho2, hd2⟩) ?_
  walk_at "goj"
  refine sub_call (p := fun r => x.cps.getD r 0 == 10) F N X ⟨o2, ho2, hc2⟩ (fun _ => peek_tgt2 w _ x t) (all2 (by omega) hno) (by omega) (by decide) (by decide +kernel) ?_
  intro y ty h₂ k₂ P1 v1 k1 hy F N hP1
  have hyl : y.cps.size ≤ 200 := by
    have := upTo_len (fun r => x.cps.getD r 0 == 10) [13, 10] x.cps.toList (by simp) x.cps.size
    have e : (Str.mk #[13, 10]).cps.toList = [13, 10] := rfl
    have : y.cps.toList.length ≤ 2 * x.cps.size := by rw [hy]; exact this
    rw [Array.length_toList] at this
    omega
  walk_at "goj"
  obtain ⟨o3, ho3, hc3, hd3⟩ := pat1 X F
  refine sub_call (p := at1 y.cps) F N X ⟨o3, ho3, hc3⟩ (fun _ => peek_tgt1 w _ y ty) (all1 (by omega)) (by omega) (by decide) (by decide +kernel) ?_
  intro z tz h₃ k₃ P2 v2 k2 hz F N hP2
  walk_at "goj"
  walk_at "ret"
  exact ⟨y, z, _, rfl, hy, hz, P1, P2, v1, k1, v2, k2, rfl, hP1, hP2 _ (.head _)⟩
end Mine
end
section
open PySem PySem.W PyProof.Rows
set_option pp.deepTerms false
set_option pp.deepTerms.threshold 3
set_option pp.maxSteps 3000
namespace Mine
local macro_rules | `(tactic| walk_at "st") => `(tactic| ((with_reducible show wpAny _ _ _ _ _ _); (fail_if_success (with_reducible show wpAny _ _ (exec (Stmt.While _ _ _ _) _) _ _ _)); (fail_if_success (with_reducible show wpAny _ _ (exec (Stmt.For _ _ _ _ _) _) _ _ _)); (fail_if_success (with_reducible show wpAny _ _ (call (Value.ref _) _ _) _ _ _)); first | (k_unfold; (try dsimp only)) | walk1 | (dsimp only; walk1)))
local macro_rules | `(tactic| walk_at "go") => `(tactic| repeat' walk_at "st")
local macro_rules | `(tactic| walk_at "fr") => `(tactic| (refine' fr_fin ?frl ?frr; (case frl => repeat' (first | with_reducible apply B_cons' | exact rfl)); (case frr => repeat' (first | exact trivial | refine And.intro (by with_unfolding_all rfl) ?_))))
local macro_rules | `(tactic| walk_at "fs") => `(tactic| (unfold fitsSsize; simp; omega))
local macro_rules | `(tactic| walk_at "ret") => `(tactic| (refine ⟨_, _, _, _, rfl, by assumption, by assumption, ?_⟩))
local macro_rules | `(tactic| walk_at "sj") => `(tactic| ((fail_if_success (with_reducible show wpAny _ _ (subscriptTail _ (Expr.Slice _ _ _ _) (Value.ref _) _) _ _ _)); (fail_if_success (with_reducible show wpAny _ _ (call (Value.builtin "len") [Value.ref _]) _ _ _)); (fail_if_success (with_reducible show wpAny _ _ (call (Value.builtin "list.pop") _) _ _ _)); (fail_if_success (with_reducible show wpAny _ _ (call (Value.builtin "list.insert") _) _ _ _)); (fail_if_success (with_reducible show wpAny _ _ (call (Value.builtin "list.append") _) _ _ _));  (fail_if_success (with_reducible show wpAny _ _ (call (Value.builtin "sorted") _ _) _ _ _));  walk_at "sti"))
local macro_rules | `(tactic| walk_at "goj") => `(tactic| repeat' walk_at "sj")
local macro_rules | `(tactic| walk_at "sti") => `(tactic| first | walk_at "st" | ((with_reducible show Frag.In _ _ ∧ _); refine ⟨by k_in, ?_⟩) | ((with_reducible show ite _ _ _); first | (rw [if_pos (by first | rfl | decide)]) | (rw [if_neg (by first | decide | (intro h; cases h))]) | walk1))
local macro_rules | `(tactic| walk_at "goi") => `(tactic| repeat' walk_at "sti")
local macro_rules | `(tactic| walk_at "fx") => `(tactic| (refine' fr_front ?frl ?frr; (case frl => repeat' (first | with_reducible apply B_cons' | exact rfl)); (case frr => repeat' (first | exact trivial | refine And.intro (by with_unfolding_all rfl) ?_))))
local macro_rules | `(tactic| walk_at "sk") => `(tactic| ((fail_if_success (with_reducible show wpAny _ _ (eval (Expr.ListComp _ _ _ _) _) _ _ _)); (fail_if_success (with_reducible show wpAny _ _ (exec (Stmt.Assign _ (Expr.ListComp _ _ _ _) _) _) _ _ _)); walk_at "sj"))
local macro_rules | `(tactic| walk_at "gok") => `(tactic| repeat' walk_at "sk")
def asked (fl : List Int) (k : Nat) : Int := (fl.take k).sum
def most (fl : List Int) (k : Nat) : Int := (k : Int) * ((k : Int) - 1) + ((fl.drop k).map fun x => if (k : Int) < x then (k : Int) else x).sum
def fairB (fl : List Int) (sm : Int) : Nat → Bool
  | 0 => sm.fmod 2 == 0
  | j + 1 => fairB fl sm j && decide (asked fl (j + 1) ≤ most fl (j + 1))
def tightB (fl : List Int) : Nat → Bool
  | 0 => true
  | j + 1 => tightB fl j && (decide (asked fl (j + 1) = most fl (j + 1)) || decide (fl.getD j 0 < (j : Int)))
theorem one_j (j : Nat) : ((j + 1 : Nat) : Int) * (((j + 1 : Nat) : Int) - 1) = (1 + (j : Int)) * (1 + (j : Int) - 1) := by rw [show ((j + 1 : Nat) : Int) = 1 + (j : Int) by omega]
theorem fair_t {fl : List Int} {sm : Int} {j : Nat} (h : fairB fl sm j = true) : fairB fl sm (j + 1) = decide ((fl.take (j + 1)).sum ≤ (1 + (j : Int)) * (1 + (j : Int) - 1) + ((fl.drop (j + 1)).map fun a => if ((j + 1 : Nat) : Int) < a then ((j + 1 : Nat) : Int) else a).sum) := by
  rw [fairB, h, Bool.true_and]; unfold asked most; rw [one_j]
theorem fair_f {fl : List Int} {sm : Int} {j : Nat} (h : fairB fl sm j = false) : fairB fl sm (j + 1) = fairB fl sm j := by
  rw [fairB, h, Bool.false_and]
theorem tight_e {fl : List Int} {j : Nat} (h : tightB fl j = true) (e : (fl.take (j + 1)).sum = (1 + (j : Int)) * (1 + (j : Int) - 1) + ((fl.drop (j + 1)).map fun a => if ((j + 1 : Nat) : Int) < a then ((j + 1 : Nat) : Int) else a).sum) :
    tightB fl (j + 1) = ((fl.take (j + 1)).sum == (1 + (j : Int)) * (1 + (j : Int) - 1) + ((fl.drop (j + 1)).map fun a => if ((j + 1 : Nat) : Int) < a then ((j + 1 : Nat) : Int) else a).sum) := by
  rw [tightB, h, Bool.true_and]; unfold asked most; rw [one_j, e]; simp
theorem tight_n {fl : List Int} {j : Nat} (h : tightB fl j = true) (e : (fl.take (j + 1)).sum ≠ (1 + (j : Int)) * (1 + (j : Int) - 1) + ((fl.drop (j + 1)).map fun a => if ((j + 1 : Nat) : Int) < a then ((j + 1 : Nat) : Int) else a).sum) :
    tightB fl (j + 1) = decide (fl.getD (1 + (j : Int) - 1).toNat 0 < 1 + (j : Int) - 1) := by
  rw [tightB, h, Bool.true_and]; unfold asked most; rw [one_j, decide_eq_false e, Bool.false_or, show 1 + (j : Int) - 1 = (j : Int) by omega, Int.toNat_natCast]
theorem tight_f {fl : List Int} {j : Nat} (h : tightB fl j = false) : tightB fl (j + 1) = tightB fl j := by
  rw [tightB, h, Bool.false_and]
def BndPost (ws : List Nat) (rest : Led) (v : Value) (n' : Led) : Prop :=
  ∃ (T : Addr) (ns : List Int), v = .ref T ∧ n' = (T, prO (.bool (fairB ns.reverse (nums ws).sum 6)) (.bool (tightB ns.reverse 6))) :: rest ∧ (∀ p ∈ rest, p.1 < T) ∧ ns.Perm (nums ws) ∧ ns.Pairwise fun a b => a ≤ b
set_option maxRecDepth 100000 in
set_option maxHeartbeats 8000000 in
theorem bnd_ok (w : World) (mean mg mb) (ws : List Nat) (wvs : List Value) (hw : IntsAre wvs (nums ws)) (hwl : ws.length = 6) (hwm : ∀ x ∈ ws, x ≤ 5)
    (aw : Addr) (n : Nat) (rest : Led) (hmw : (aw, lst wvs n) ∈ rest) :
    CallsTo w mean mg mb 113 [.ref aw] [] 1 rest (BndPost ws rest) := by
  w_top off
  refine calls_introD (need := 0) [("wishes", .ref aw)] [("wishes", .ref aw)] [] (fun n => [("count", n)]) rfl rfl (fun _ => rfl) (fun _ => rfl) (fun n x hx => .inl (locs rfl x hx)) (by decide) rfl rfl rfl rfl rfl ?_
  dsimp only [KK, looseL, prog]
  k_fill
  intro dp un gd outer A₀ base g L h₁ s₀ cells B F X N CA lt T hd hu
  obtain ⟨oc, rfl, hoc⟩ := CA.one
  replace hoc : oc.data = .cell none := hoc
  replace N : News g L h₁ ((L + 1, oc) :: rest) := N
  walk_at "gok"
  refine sorted_N F N (News.isList N (.tail _ hmw)) hw ?_ ?_
  · rw [IntsAre.length hw]; unfold nums; rw [List.length_map]; omega
  intro h2 vs2 ns2 e2 F2 N2 hI2 hp2 hs2
  have hn2 : ns2.length = 6 := by rw [hp2.length_eq]; unfold nums; rw [List.length_map]; exact hwl
  clear F N
  walk_at "goi"
  rename_i D vs3 hx3 hI3 hl3 hlt3 h3 F3 N3
  refine sumK rfl F3 N3 (News.isList (items := wvs.toArray) N3 (.tail _ (.tail _ (.tail _ hmw)))) hw ?_
  intro h5 tk5 t5 F5 N5
  clear F3 N3
  walk_at "gok"
  refine for_start ?_
  walk_at "gok"
  rename_i h6 tk6 tr ur vr hr6 F6 N6 hk6
  refine iter_range F6 N6 hr6 (by decide) (n := 6) (by decide) ?_
  intro I h7 ltI F7 N7
  have hID : D < I := ltI _ (.head _)
  have hIL : L + 1 < I := ltI _ (.tail _ (.tail _ (.head _)))
  have hDL : L + 1 < D := hlt3.2.1
  have hrI : ∀ p ∈ rest, p.1 < I := fun p hp => ltI _ (.tail _ (.tail _ (.tail _ hp)))
  have hrD : ∀ p ∈ rest, p.1 < D := allLt_mem hlt3.2.2
  refine for_ind (ι := Nat) (fun j s' => ∃ h tk' oc cv tb fb, ∃ ex : List (Str × Value), s' = { s₀ with heap := h, toks := tk' } ∧ Fr g L h (BX [("tight", .bool tb), ("fair", .bool fb), ("falling", .ref D), ("wishes", .ref aw)] ex) ∧
    News g L h ((I, rgI (1 + (j : Int)) (6 - (j : Int))) :: (D, lst vs3 0) :: (L + 1, oc) :: rest) ∧ oc.data = .cell cv ∧ j ≤ 6 ∧ tightB ns2.reverse j = tb ∧ fairB ns2.reverse (nums ws).sum j = fb) (fun j => 6 - j) PassesOwn.never ?step 0 ?init
  case init =>
    refine ⟨_, _, oc, _, tightB ns2.reverse 0, fairB ns2.reverse (nums ws).sum 0, ?_, rfl, fr_of F7 ?e, ?n, hoc, by omega, rfl, rfl⟩
    case n => exact news_sub N7 (by intro p hp; simp only [List.mem_cons] at hp ⊢; rcases hp with h | h | h | h <;> simp [h])
    case e => walk_at "fx"
  case step =>
    rintro j s' ⟨h, tk', oc, cv, _, _, ex, rfl, F, N, hoc, hj, rfl, rfl⟩ IH
    by_cases hlt : j < 6
    · refine next_range F N ?_ (by omega) ?_
      · intro p hp
        simp only [List.mem_cons] at hp
        rcases hp with h | h | h
        · rw [h]; exact Nat.ne_of_lt hID
        · rw [h]; exact Nat.ne_of_lt hIL
        · exact Nat.ne_of_lt (hrI p h)
      intro tc h8 tk8 F8 N8
      refine forStep_name ?_
      refine storeC (led := (I, rgI (1 + (j : Int) + 1) (6 - (j : Int) - 1)) :: (D, lst vs3 0) :: rest) F8 (news_sub N8 ?_) ?_ rfl hoc rfl rfl ?_
      · intro p hp; simp only [List.mem_cons] at hp ⊢; rcases hp with h | h | h | h <;> simp [h]
      · intro p hp
        simp only [List.mem_cons] at hp
        rcases hp with h | h | h
        · rw [h]; exact Nat.ne_of_gt hIL
        · rw [h]; exact Nat.ne_of_gt hDL
        · exact Nat.ne_of_lt (Nat.lt_succ_of_lt (lt p h))
      intro h9 oc9 F9 N9 hoc9
      have fin := fun (h : Heap) (tk' : Nat) (tb fb : Bool) (ex : List (Str × Value)) (F : Fr g L h (BX [("tight", .bool tb), ("fair", .bool fb), ("falling", .ref D), ("wishes", .ref aw)] ex)) (N : News g L h ((I, rgI (1 + (j : Int) + 1) (6 - (j : Int) - 1)) :: (D, lst vs3 0) :: (L + 1, oc9) :: rest)) (ht : tightB ns2.reverse (j + 1) = tb) (hf : fairB ns2.reverse (nums ws).sum (j + 1) = fb) =>
        IH (j + 1) { s₀ with heap := h, toks := tk' } (by omega) ⟨h, tk', oc9, _, tb, fb, ex, rfl, F, by rw [show 1 + ((j + 1 : Nat) : Int) = 1 + (j : Int) + 1 by omega, show 6 - ((j + 1 : Nat) : Int) = 6 - (j : Int) - 1 by omega]; exact N, hoc9, by omega, ht, hf⟩
      clear IH
      clear F N F8 N8
      walk_at "gok"
      have hv3 : vs3.length = 6 := by rw [IntsAre.length hI3, hl3, hn2]
      refine kms_slice_lit (s := ⟨_, _, _, _, _⟩) (its := vs3.toArray) (zs := vs3.take (j + 1)) (by assumption) (by assumption) (News.isList (by assumption) (.tail _ (.tail _ (.head _)))) .none (IsPart.int _ _) ?e ?h (by with_unfolding_all rfl) (by intro _; with_unfolding_all rfl) ?z
      case e => rw [show 1 + (j : Int) = ((j + 1 : Nat) : Int) by omega]; exact pick_upto (by rw [hv3]; omega)
      case z => rw [List.size_toArray, hv3, sizeLine_eq]; omega
      intro D3 h10 F10 N10 ltD
      walk_at "gok"
      refine sumK rfl (by assumption) (by assumption) (News.isList (items := (vs3.take (j + 1)).toArray) (by assumption) (.head _)) (hI3.take (j + 1)) ?_
      intro h11 tk11 t11 F11 N11
      walk_at "gok"
      rename_i h12 F12 N12
      refine comp_free (cl := [("count", L + 1)]) (fun _ => true) (fun v y => ∃ a ta tb, v = .int a ta ∧ y = .int (if ((j + 1 : Nat) : Int) < a then ((j + 1 : Nat) : Int) else a) tb) rfl (by decide) rfl (by decide) rfl ?_
      walk_at "gok"
      refine kms_slice_lit (s := ⟨_, _, _, _, _⟩) (its := vs3.toArray) (zs := vs3.drop (j + 1)) (by assumption) (by assumption) (News.isList (by assumption) (.tail _ (.tail _ (.tail _ (.head _))))) (IsPart.int _ _) .none ?e ?h (by with_unfolding_all rfl) (by intro _; with_unfolding_all rfl) ?z
      case e => rw [show 1 + (j : Int) = ((j + 1 : Nat) : Int) by omega]; exact pick_from (by rw [hv3]; omega)
      case z => rw [List.size_toArray, hv3, sizeLine_eq]; omega
      intro D4 h13 F13 N13 ltD4
      have hI4 := hI3.drop (j + 1)
      refine iter_walk_list rfl F13 N13 (vs := vs3.drop (j + 1)) (News.isList N13 (.head _)) (by rw [List.length_drop]; omega) ?_ ?_ ?_
      · intro C v s₃ m₃ E' hv hns hm hk hC
        exact wpAny_pure ⟨rfl, keeps_refl _⟩
      · intro C v s₃ m₃ E' hv hp hns hm hk hC
        obtain ⟨a, ta, rfl⟩ := hI4.all v hv
        refine wpAny_Call_NameR (LCgL.ld_built (F13.keeps hk) X T rfl PyProof.Rows.boot_min (by decide) ?_)
        walk_at "sti"
        walk_at "sti"
        refine wpAny_Name (wpAny_loadName_local rfl rfl hns hm ?_) (by decide)
        walk_at "sti"
        refine wpAny_Name (wpAny_loadName_cell rfl rfl rfl ⟨oc9, hk _ _ (N13 (L + 1, oc9) (.tail _ (.tail _ (.head _)))).1, hoc9⟩ ?_) (by decide)
        walk_at "sti"
        refine min_two_ints rfl fun h' tk hk' => ?_
        refine ⟨⟨a, ta, if 1 + (j : Int) < a then tc else ta, rfl, ?_⟩, _, _, rfl, hk'⟩
        rw [show 1 + (j : Int) = ((j + 1 : Nat) : Int) by omega]
        by_cases c : ((j + 1 : Nat) : Int) < a
        · rw [if_pos c, if_pos c, if_pos c]
        · rw [if_neg c, if_neg c, if_neg c]
      intro D5 h14 tk14 ys k14 F14 N14 hD5 hpair
      rw [List.filter_eq_self.mpr (fun _ _ => rfl)] at hpair
      walk_at "gok"
      refine sumK rfl F14 N14 (News.isList (items := ys.toArray) N14 (.head _)) (ints_paired (f := fun a => if ((j + 1 : Nat) : Int) < a then ((j + 1 : Nat) : Int) else a) hI4 hpair) ?_
      intro h15 tk15 t15 F15 N15
      clear F13 N13 F14 N14
      walk_at "gok"
      all_goals
        refine' fin _ _ _ _ _ (fr_of (by assumption) _) (news_sub (by assumption) _) _ _
        rotate_left 3
        · walk_at "fx"
        · intro p hp; simp only [List.mem_cons] at hp ⊢; rcases hp with h | h | h | h <;> simp [h]
        · first | exact tight_e (by assumption) (by assumption) | exact tight_n (by assumption) (by assumption) | exact tight_f (by assumption)
        · first | exact fair_t (by assumption) | exact fair_f (by assumption)
    · refine next_range_end rfl F N ?_ (by omega) ?_
      · intro p hp
        simp only [List.mem_cons] at hp
        rcases hp with h | h | h
        · rw [h]; exact Nat.ne_of_lt hID
        · rw [h]; exact Nat.ne_of_lt hIL
        · exact Nat.ne_of_lt (hrI p h)
      intro h8 F8 N8
      refine forStep_end ?_
      have : j = 6 := by omega
      subst this
      clear IH F N
      walk_at "gok"
      rename_i T' hT FT NT ltT
      exact ⟨_, _, _, (T', prO (.bool (fairB ns2.reverse (nums ws).sum 6)) (.bool (tightB ns2.reverse 6))) :: rest, rfl, FT, news_sub NT (by intro p hp; simp only [List.mem_cons] at hp ⊢; rcases hp with h | h <;> simp [h]), T', ns2, rfl, rfl, allLt_mem ltT.2.2, hp2, hs2⟩
end Mine
end
section
open PySem PySem.W PySem.Calls PyProof.Rows
set_option maxRecDepth 100000
namespace Mine
abbrev sgl (c : Nat) : Str := ⟨#[c]⟩
theorem signs_are : ∀ (cs : List Nat) (vs : List Value), vs.length = cs.length → (∀ (j : Nat) (v : Value), vs[j]? = some v → ∃ c u, cs[j]? = some c ∧ v = .str ⟨#[c]⟩ u) → StrsAre vs (cs.map sgl)
  | [], [], _, _ => .nil
  | c :: cs, v :: vs, hl, h => by
    obtain ⟨c', u, h1, h2⟩ := h 0 v rfl
    cases h1
    subst h2
    exact .cons _ u (signs_are cs vs (by simpa using hl) fun j v hv => h (j + 1) v (by simpa using hv))
section
variable {prog : Program} {w : World} {A : Around} {E : Value → Shared → Prop} {s : Shared} {h₀ : Heap} {L : Addr} {m : Loc} {led : Led}
  {env : Env} {scope : Scope} {cl : List (Str × Addr)} {x : Str} {ifs : List Expr} {elt : Expr} {Q : Value → Shared → Prop}
def isSgl (f : Nat → Bool) (v : Value) : Bool := match v with
  | .str l _ => f (l.cps.getD 0 0)
  | _ => false
theorem sgl_filter (f : Nat → Bool) (cs : List Nat) : (cs.map sgl).filter (fun l : Str => f (l.cps.getD 0 0)) = (cs.filter f).map sgl := by
  rw [List.filter_map]; rfl
theorem iter_walk_strG {t : Tok} {y : Str} (f : Nat → Bool) (hh : A.handled = none) (hsz : y.cps.size ≤ 1000)
    (htest : ∀ C c u s₃ m₃ E', s₃.heap.Ns C m₃ → m₃ x = some (.str (sgl c) u) → (∀ b o, s.heap.get? b = some o → s₃.heap.get? b = some o) →
      wpAny (model prog w) A (forIn ifs true fun c r => if r = true then do let ok ← isTrue c (compEnvC scope cl C env) (eval c (compEnvC scope cl C env)); pure (ForInStep.yield ok) else pure (ForInStep.yield r))
        (fun ok s₄ => ok = f c ∧ Keeps s₃ s₄) E' s₃)
    (helt : ∀ C v s₃ m₃ E', s₃.heap.Ns C m₃ → m₃ x = some v → wpAny (model prog w) A (eval elt (compEnvC scope cl C env)) (fun y s₄ => v = y ∧ Keeps s₃ s₄) E' s₃)
    (hq : ∀ D h' tk ys k, s.heap.get? D = none → h'.get? D = some (lst ys k) → (∀ b o, s.heap.get? b = some o → h'.get? b = some o) → StrsAre ys ((y.cps.toList.filter f).map sgl) → Q (.ref D) { s with heap := h', toks := tk }) :
    CompGo prog w A env scope cl x ifs elt (isSgl f) (fun v y => v = y) Q E (.str y t) s := by
  refine wpAny_pyIter_str fun o St W hst => ?_
  have hold : ∀ b o', s.heap.get? b = some o' → (s.heap.push o).get? b = some o' := fun _ _ e => Heap.get?_push_of_some _ e
  have hne : ∀ b o', s.heap.get? b = some o' → b ∉ [s.heap.objs.size] := fun b o e q => by simp at q; exact absurd (Heap.lt_size e) (by rw [q]; exact Nat.lt_irrefl _)
  refine ⟨s.heap.objs.size, [s.heap.objs.size], [s.heap.objs.size], y.cps.size, _, _, rfl, W A hh, by rw [sizeLine_eq]; omega, hst, ?_, ?_, ?_⟩
  · intro b hb
    dsimp only
    rw [Heap.size_push]
    simp at hb
    subst hb
    exact Nat.lt_succ_self _
  · constructor
    · intro C i v s₃ m₃ E' hC hv hns hmx hk htk
      obtain ⟨c, u, hc, rfl⟩ := hv
      exact htest C c u s₃ m₃ E' hns hmx (fun b o e => hk b o (hne b o e) (hold b o e))
    · intro C i v s₃ m₃ E' hC hv hp hns hmx hk htk
      exact helt C v s₃ m₃ E' hns hmx
  · intro D h' tk ys vs' hD hl hpl hlen hP hpair hk
    have hall : ∀ b o, s.heap.get? b = some o → h'.get? b = some o := fun b o e => hk b o (hne b o e) (hold b o e)
    have hsv : StrsAre vs' (y.cps.toList.map sgl) := signs_are _ _ (by simpa using hlen) fun j v hv => by
      obtain ⟨c, u, hc, e⟩ := hP j v hv
      exact ⟨c, u, by simpa using hc, e⟩
    have hys : StrsAre ys.toList ((y.cps.toList.filter f).map sgl) := by
      rw [paired_eq hpair, ← sgl_filter]
      exact strs_filter (fun _ _ => rfl) hsv
    obtain ⟨k, hk'⟩ := hpl
    have hDn : s.heap.get? D = none := by
      cases q : s.heap.get? D with
      | none => rfl
      | some o => have := hold _ _ q; dsimp only at hD; rw [hD] at this; cases this
    exact hq D h' tk ys.toList k hDn (by simpa using hk') hall hys
theorem min_two_strK {x y : Str} {t u : Tok} {Q : Value → Shared → Prop} (hh : A.handled = none)
    (hq : ∀ t' h' tk, (∀ c o, s.heap.get? c = some o → h'.get? c = some o) → Q (.str (if y.cps.toList < x.cps.toList then y else x) t') { s with heap := h', toks := tk }) : wpAny (model prog w) A (call (.builtin "min") [.str x t, .str y u]) Q E s := by
  have hT : (s.heap.push { cls := .type "tuple", data := .seq #[.str x t, .str y u] }).IsTuple s.heap.objs.size #[.str x t, .str y u] := ⟨_, Heap.get?_push_size _ rfl, rfl, 0, rfl⟩
  refine call_min_two (wpAny_pyIter_tuple hT ?_)
  have hsz : (s.heap.push { cls := .type "tuple", data := .seq #[.str x t, .str y u] }).objs.size = s.heap.objs.size + 1 := Heap.size_push ..
  refine ⟨_, [_, s.heap.objs.size], [_], _, _, _, _, rfl, Walks.tuple (A := A.in1) hh _ s.heap.objs.size (by rw [hsz]; exact Nat.ne_of_lt (Nat.lt_succ_self _)) #[.str x t, .str y u],
    ⟨⟨_, Heap.get?_push_size _ rfl, rfl, rfl⟩, hT.push _⟩, fun c hc => ?_, by simp, cmpOf_str x y t u, fun v h' tk hP hk => ?_⟩
  · show c < ((s.heap.push _).push _).objs.size
    rw [Heap.size_push, hsz]
    rcases List.mem_cons.mp hc with rfl | hc
    · rw [hsz]; exact Nat.lt_succ_self _
    · rcases List.mem_cons.mp hc with rfl | hc
      · exact Nat.lt_succ_of_lt (Nat.lt_succ_self _)
      · cases hc
  · have hold : ∀ c o, s.heap.get? c = some o → h'.get? c = some o := fun c o e => by
      refine hk c o (fun hm => ?_) (Heap.get?_push_of_some _ (Heap.get?_push_of_some _ e))
      rcases List.mem_cons.mp hm with e1 | hm
      · have := Heap.lt_size e; rw [e1, hsz] at this; exact Nat.lt_irrefl _ (Nat.lt_of_succ_lt this)
      · cases hm
    by_cases c : y.cps.toList < x.cps.toList
    · have hv : v = .str y u := by
        have : ltT (.str y u) (.str x t) = true := decide_eq_true c
        simp [argBest, this] at hP
        exact hP.symm
      have := hq u h' tk hold
      rw [if_pos c] at this
      rw [hv]; exact this
    · have hv : v = .str x t := by
        have : ltT (.str y u) (.str x t) = false := decide_eq_false c
        simp [argBest, this] at hP
        exact hP.symm
      have := hq t h' tk hold
      rw [if_neg c] at this
      rw [hv]; exact this
theorem min_pairK {a b : Nat} {t u : Tok} {Q : Value → Shared → Prop} (hh : A.handled = none)
    (hq : ∀ t' h' tk, (∀ c o, s.heap.get? c = some o → h'.get? c = some o) → Q (.str (pairS (a, b)) t') { s with heap := h', toks := tk }) : wpAny (model prog w) A (call (.builtin "min") [.str (two a b) t, .str (two b a) u]) Q E s :=
  min_two_strK hh fun t' h' tk hk => by rw [pair_min]; exact hq t' h' tk hk
theorem keeps_trans {a b c : Shared} (h : Keeps a b) (k : Keeps b c) : Keeps a c := by
  obtain ⟨h1, t1, rfl, k1⟩ := h
  obtain ⟨h2, t2, rfl, k2⟩ := k
  exact ⟨h2, t2, rfl, fun b o e => k2 b o (k1 b o e)⟩
end
end Mine
end
section
open PySem PySem.W PySem.Calls PyProof.Rows
set_option maxRecDepth 100000
namespace Mine
theorem an10 (n : Nat) : n + 1 ≠ n := by omega
theorem an20 (n : Nat) : n + 2 ≠ n := by omega
theorem an30 (n : Nat) : n + 3 ≠ n := by omega
theorem an12 (n : Nat) : n + 1 ≠ n + 2 := by omega
theorem an13 (n : Nat) : n + 1 ≠ n + 3 := by omega
theorem an23 (n : Nat) : n + 2 ≠ n + 3 := by omega
abbrev cellO : Obj := { cls := .type "cell", data := .cell none }
section
variable {prog : Program} {w : World} {A : Around} {E : Value → Shared → Prop} {s : Shared} {h₀ : Heap} {L : Addr} {m : Loc} {led : Led}
  {env : Env} {scope : Scope} {cl : List (Str × Addr)} {x : Str} {elt iter : Expr} {px pos : Pos} {Q : Value → Shared → Prop}
theorem newEnv_cell {M : Model} {g : Addr} {q : Str} {QQ : Env → Shared → Prop} (hcf : ∀ n, cellsFrom n scope.names cl = (x, n) :: cl) (hpc : ∀ h, pushCells h scope.names = h.push cellO)
    (hQ : QQ { scope := scope, locals := s.heap.objs.size, globals := g, cells := (x, s.heap.objs.size + 1) :: cl, qual := q, func := none, code := env.code, frame := env.frame, builtins := env.builtins }
      { s with heap := (s.heap.push { cls := .type "dict", data := .dict #[] }).push cellO }) :
    wpAny M A (newFunctionEnv scope g cl [] q none .none (some env)) QQ E s := by
  simp only [newFunctionEnv, Option.isSome_some, if_true]
  refine wpAny_bind (wpAny_alloc ?_)
  refine wpAny_bind (wpAny_layCells _ (fun name kind cells => by cases hkc : kind == NameKind.cell <;> simp [hkc]) _ _ _ _ ?_)
  rw [hcf, hpc]
  rw [List.forIn_nil]
  refine wpAny_bind (wpAny_pure (wpAny_pure ?_))
  rw [show ({ s with heap := s.heap.push { cls := .type "dict", data := .dict #[] } } : Shared).heap.objs.size = s.heap.objs.size + 1 from Heap.size_push ..]
  exact hQ
/-- what the comprehension has made so far: an address, its list -/
abbrev Ins := List (Addr × List Value × Nat)
theorem comp_cell_str {y : Str} (R : Nat → List Value → Prop) (hh : A.handled = none) (F : Fr h₀ L s.heap m) (N : News h₀ L s.heap led) (hsz : y.cps.size ≤ 1000) (hasc : y.cps.all (· < 128) = true)
    (hclos : closureFor scope env = pure cl) (hkind : scope.kind = .function)
    (hnames : ∀ y ∈ scope.names, y.2 = .local → scope.names.lookup y.1 = some .local)
    (hcf : ∀ n, cellsFrom n scope.names cl = (x, n) :: cl) (hpc : ∀ h, pushCells h scope.names = h.push cellO)
    (hxk : (relabel scope env).names.lookup x = some .cell)
    (hit : wpAny (model prog w) A (eval iter env) (fun v s' => ∃ t tk, v = .str y t ∧ s' = { s with toks := tk }) E s)
    (helt : ∀ C cX c u s₃ m₃ E', c ∈ y.cps.toList → s₃.heap.Ns C m₃ → s₃.heap.IsCell cX (some (.str (sgl c) u)) → (∀ b o, s.heap.get? b = some o → s₃.heap.get? b = some o) →
      wpAny (model prog w) A (eval elt (compEnvC scope ((x, cX) :: cl) C env)) (fun v s₄ => Keeps s₃ s₄ ∧ ∃ D ys k, v = .ref D ∧ s₃.heap.get? D = none ∧ s₄.heap.get? D = some (lst ys k) ∧ R c ys) E' s₃)
    (hq : ∀ D h' tk (ins : Ins) k, Fr h₀ L h' m → News h₀ L h' ((D, lst (ins.map fun p => .ref p.1) k) :: (ins.map fun p => (p.1, lst p.2.1 p.2.2)) ++ led) → Paired (fun c p => R c p.2.1) y.cps.toList ins →
      (∀ q ∈ led, q.1 ≠ D) → (∀ q ∈ led, ∀ p ∈ ins, q.1 ≠ p.1) → Q (.ref D) { s with heap := h', toks := tk })
    (hs : ∀ x, foldedSetIterable iter env x = pure x := by intro _; rfl) :
    wpAny (model prog w) A (eval (.ListComp elt [⟨.Name x px, iter, [], 0⟩] scope pos) env) Q E s := by
  rw [eval_ListComp]
  refine wpAny_comprehension_free (use := none) rfl hs hclos hkind hnames (wpAny_mono hit (fun v s' hv => ?_) fun _ _ e => e)
  obtain ⟨t, tk0, rfl, rfl⟩ := hv
  refine wpAny_pyIter_ascii hasc ?_
  dsimp only
  have W := Walks.strAscii (prog := prog) (w := w) hh s.heap.objs.size y t
  have hst : (s.heap.push { cls := .type "str_ascii_iterator", data := .fields #[.str y t, .int 0 0] }).IsStrIter s.heap.objs.size "str_ascii_iterator" y t 0 := ⟨_, Heap.get?_push_size _ rfl, rfl, rfl⟩
  generalize hSt : (fun i h => Heap.IsStrIter h s.heap.objs.size "str_ascii_iterator" y t i) = St at W
  replace hst : St 0 (s.heap.push { cls := .type "str_ascii_iterator", data := .fields #[.str y t, .int 0 0] }) := by rw [← hSt]; exact hst
  have hStI : ∀ i h, St i h → ∃ o, h.get? s.heap.objs.size = some o := fun i h q => by
    rw [← hSt] at q; obtain ⟨o, ho, _⟩ := q; exact ⟨o, ho⟩
  generalize ho : ({ cls := .type "str_ascii_iterator", data := .fields #[.str y t, .int 0 0] } : Obj) = o at hst ⊢
  refine wpAny_newObj_type ?_
  refine newEnv_cell hcf hpc ?_
  dsimp only
  generalize hn : s.heap.objs.size = n at W hst hStI ⊢
  have hL : L < n := by rw [← hn]; exact F.ns.lt
  have hold : ∀ b o', s.heap.get? b = some o' → b < n := fun b o e => by rw [← hn]; exact Heap.lt_size e
  generalize hH : (((s.heap.push o).push { cls := .type "list", dict := none, data := .seq ([] : List Value).toArray }).push { cls := .type "dict", data := .dict #[] }).push cellO = H
  have z1 : (s.heap.push o).objs.size = n + 1 := by rw [Heap.size_push, hn]
  have z2 : ((s.heap.push o).push { cls := .type "list", dict := none, data := .seq ([] : List Value).toArray }).objs.size = n + 2 := by rw [Heap.size_push, z1]
  have z3 : (((s.heap.push o).push { cls := .type "list", dict := none, data := .seq ([] : List Value).toArray }).push { cls := .type "dict", data := .dict #[] }).objs.size = n + 3 := by rw [Heap.size_push, z2]
  rw [z2, z1]
  have oldH : ∀ b o', s.heap.get? b = some o' → H.get? b = some o' := fun b o' e => by
    rw [← hH]; exact Heap.get?_push_of_some _ (Heap.get?_push_of_some _ (Heap.get?_push_of_some _ (Heap.get?_push_of_some _ e)))
  have stH : St 0 H := W.frame _ _ _ hst fun b _ o' e => by
    rw [← hH]; exact Heap.get?_push_of_some _ (Heap.get?_push_of_some _ (Heap.get?_push_of_some _ e))
  have accH : H.PlainList (n + 1) #[] := ⟨0, by rw [← hH]; exact Heap.get?_push_of_some _ (Heap.get?_push_of_some _ (z1 ▸ Heap.get?_push_size _ rfl))⟩
  have nsH : H.Ns (n + 2) (fun _ => none) := by
    have := Heap.Ns.new ((s.heap.push o).push { cls := .type "list", dict := none, data := .seq ([] : List Value).toArray }) (.type "dict")
    rw [z2] at this
    rw [← hH]
    exact this.keeps fun b o' e => Heap.get?_push_of_some _ e
  have cellH : H.IsCell (n + 3) none := ⟨cellO, by rw [← hH]; exact z3 ▸ Heap.get?_push_size _ rfl, rfl⟩
  have nI : ∀ b o', s.heap.get? b = some o' → b ≠ n ∧ b ≠ n + 1 ∧ b ≠ n + 2 ∧ b ≠ n + 3 := fun b o' e => by
    have := hold b o' e
    exact ⟨Nat.ne_of_lt this, Nat.ne_of_lt (Nat.lt_of_lt_of_le this (Nat.le_add_right _ _)), Nat.ne_of_lt (Nat.lt_of_lt_of_le this (Nat.le_add_right _ _)), Nat.ne_of_lt (Nat.lt_of_lt_of_le this (Nat.le_add_right _ _))⟩
  have hxC : (compEnvC scope ((x, n + 3) :: cl) (n + 2) env).kindOf x = some .cell := hxk
  have hlk : (compEnvC scope ((x, n + 3) :: cl) (n + 2) env).cells.lookup x = some (n + 3) := by
    show List.lookup x ((x, n + 3) :: cl) = _
    rw [List.lookup_cons, beq_self_eq_true]
  have hkC : (compEnvC scope ((x, n + 3) :: cl) (n + 2) env).scope.kind = .function := hkind
  show codeAny (model prog w) A (.compStart (.ListComp elt [⟨.Name x px, iter, [], 0⟩] scope pos) 0 (.ref n) (.ref (n + 1)) (compEnvC scope ((x, n + 3) :: cl) (n + 2) env)) _ _
  have loop : codeAny (model prog w) A (.compLoop (.ListComp elt [⟨.Name x px, iter, [], 0⟩] scope pos) 0 (.ref n) (.ref (n + 1)) (compEnvC scope ((x, n + 3) :: cl) (n + 2) env))
      (compPost (model prog w) A E none Q (.ref (n + 1)) (n + 2)) { s with heap := H, toks := tk0 } := by
    refine codeAny_compLoop_tests
      (fun k s' => ∃ h' tk m' cv, ∃ ins : Ins, s' = { s with heap := h', toks := tk } ∧ St ins.length h' ∧ (∃ k', h'.get? (n + 1) = some (lst (ins.map fun p => .ref p.1) k')) ∧ h'.Ns (n + 2) m' ∧ h'.IsCell (n + 3) cv ∧
        (∀ b o', s.heap.get? b = some o' → h'.get? b = some o') ∧ (∀ p ∈ ins, h'.get? p.1 = some (lst p.2.1 p.2.2) ∧ s.heap.get? p.1 = none ∧ p.1 ≠ n ∧ p.1 ≠ n + 1 ∧ p.1 ≠ n + 2 ∧ p.1 ≠ n + 3) ∧
        Paired (fun c p => R c p.2.1) (y.cps.toList.take ins.length) ins ∧ ins.length ≤ y.cps.size ∧ k = y.cps.size + 1 - ins.length) ?_ (y.cps.size + 1)
      ⟨H, tk0, _, _, [], rfl, stH, ?_, nsH, cellH, oldH, by simp, by simpa using Paired.nil, Nat.zero_le _, rfl⟩
    · rintro k s' ⟨h', tk, m', cv, ins, rfl, hst', ⟨k', hacc⟩, hns, hcell, hkeep, hins, hpair, hle, rfl⟩
      by_cases hlt : ins.length < y.cps.size
      · refine W.item ins.length _ _ _ hlt hst' fun v h1 tk1 hP hst1 hk1 => ?_
        obtain ⟨c, u, hc, rfl⟩ := hP
        have e1 : ∀ b o', b ≠ n → h'.get? b = some o' → h1.get? b = some o' := fun b o' hb e => hk1 b o' (by simpa using hb) e
        have cell1 : h1.IsCell (n + 3) cv := let ⟨o', ho, hd⟩ := hcell; ⟨o', e1 _ _ (by (first | exact an10 _ | exact an20 _ | exact an30 _ | exact an12 _ | exact an13 _ | exact an23 _ | exact Ne.symm (an10 _) | exact Ne.symm (an20 _) | exact Ne.symm (an30 _) | exact Ne.symm (an12 _) | exact Ne.symm (an13 _) | exact Ne.symm (an23 _) | omega)) ho, hd⟩
        refine wpAny_assign_Name (wpAny_storeName_cell hkC hxC hlk cell1 fun h2 hc2 hs2 => ?_)
        have e2 : ∀ b o', b ≠ n → b ≠ n + 3 → h'.get? b = some o' → h2.get? b = some o' := fun b o' hb hb3 e => hs2.extBut b o' hb3 (e1 b o' hb e)
        have hst2 : St (ins.length + 1) h2 := W.frame _ _ _ hst1 fun b hb o' e => hs2.extBut b o' (by simp at hb; subst hb; (first | exact an10 _ | exact an20 _ | exact an30 _ | exact an12 _ | exact an13 _ | exact an23 _ | exact Ne.symm (an10 _) | exact Ne.symm (an20 _) | exact Ne.symm (an30 _) | exact Ne.symm (an12 _) | exact Ne.symm (an13 _) | exact Ne.symm (an23 _) | omega)) e
        refine wpAny_tests_nil ?_
        rw [if_pos rfl]
        have hold2 : ∀ b o', s.heap.get? b = some o' → h2.get? b = some o' := fun b o' e => e2 b o' (nI b o' e).1 (nI b o' e).2.2.2 (hkeep b o' e)
        have ns2 : h2.Ns (n + 2) m' := hns.at' fun o' e => e2 _ _ (by (first | exact an10 _ | exact an20 _ | exact an30 _ | exact an12 _ | exact an13 _ | exact an23 _ | exact Ne.symm (an10 _) | exact Ne.symm (an20 _) | exact Ne.symm (an30 _) | exact Ne.symm (an12 _) | exact Ne.symm (an13 _) | exact Ne.symm (an23 _) | omega)) (by (first | exact an10 _ | exact an20 _ | exact an30 _ | exact an12 _ | exact an13 _ | exact an23 _ | exact Ne.symm (an10 _) | exact Ne.symm (an20 _) | exact Ne.symm (an30 _) | exact Ne.symm (an12 _) | exact Ne.symm (an13 _) | exact Ne.symm (an23 _) | omega)) e
        have hcm : c ∈ y.cps.toList := by
          rw [Array.mem_toList_iff]; exact Array.mem_of_getElem? hc
        refine wpAny_mono (helt (n + 2) (n + 3) c u _ m' _ hcm ns2 hc2 hold2) (fun v s4 h4 => ?_) fun _ _ e => e
        obtain ⟨⟨h4, tk4, rfl, hk4⟩, D, ys, kk, rfl, hDn, hD4, hR⟩ := h4
        dsimp only at hk4 hDn hD4 ⊢
        have acc2 : h4.PlainList (n + 1) (ins.map fun p => Value.ref p.1).toArray := ⟨k', hk4 _ _ (e2 _ _ (by (first | exact an10 _ | exact an20 _ | exact an30 _ | exact an12 _ | exact an13 _ | exact an23 _ | exact Ne.symm (an10 _) | exact Ne.symm (an20 _) | exact Ne.symm (an30 _) | exact Ne.symm (an12 _) | exact Ne.symm (an13 _) | exact Ne.symm (an23 _) | omega)) (by (first | exact an10 _ | exact an20 _ | exact an30 _ | exact an12 _ | exact an13 _ | exact an23 _ | exact Ne.symm (an10 _) | exact Ne.symm (an20 _) | exact Ne.symm (an30 _) | exact Ne.symm (an12 _) | exact Ne.symm (an13 _) | exact Ne.symm (an23 _) | omega)) hacc)⟩
        have hne : ∀ b o', h2.get? b = some o' → D ≠ b := fun b o' e q => by rw [q, e] at hDn; cases hDn
        have hDI : D ≠ n := by
          obtain ⟨o', e⟩ := hStI _ _ hst2
          exact hne _ _ e
        have hD1 : D ≠ n + 1 := hne _ _ (e2 _ _ (by (first | exact an10 _ | exact an20 _ | exact an30 _ | exact an12 _ | exact an13 _ | exact an23 _ | exact Ne.symm (an10 _) | exact Ne.symm (an20 _) | exact Ne.symm (an30 _) | exact Ne.symm (an12 _) | exact Ne.symm (an13 _) | exact Ne.symm (an23 _) | omega)) (by (first | exact an10 _ | exact an20 _ | exact an30 _ | exact an12 _ | exact an13 _ | exact an23 _ | exact Ne.symm (an10 _) | exact Ne.symm (an20 _) | exact Ne.symm (an30 _) | exact Ne.symm (an12 _) | exact Ne.symm (an13 _) | exact Ne.symm (an23 _) | omega)) hacc)
        have hD2 : D ≠ n + 2 := by obtain ⟨o', _, _, e, _⟩ := ns2; exact hne _ _ e
        have hD3 : D ≠ n + 3 := by obtain ⟨o', e, _⟩ := hc2; exact hne _ _ e
        have hDs : s.heap.get? D = none := by
          cases q : s.heap.get? D with
          | none => rfl
          | some o' => rw [hold2 _ _ q] at hDn; cases hDn
        refine wpAny_list_append_plain (hsz := ?hsz) acc2 fun h5 hl5 hs5 => ?_
        case hsz => rw [List.size_toArray, List.length_map, sizeLine_eq]; omega
        refine ⟨y.cps.size + 1 - (ins.length + 1), by (first | exact an10 _ | exact an20 _ | exact an30 _ | exact an12 _ | exact an13 _ | exact an23 _ | exact Ne.symm (an10 _) | exact Ne.symm (an20 _) | exact Ne.symm (an30 _) | exact Ne.symm (an12 _) | exact Ne.symm (an13 _) | exact Ne.symm (an23 _) | omega), h5, tk4, m', _, ins ++ [(D, ys, kk)], rfl, ?_, ?_, (ns2.keeps hk4).sameBut hs5 (by (first | exact an10 _ | exact an20 _ | exact an30 _ | exact an12 _ | exact an13 _ | exact an23 _ | exact Ne.symm (an10 _) | exact Ne.symm (an20 _) | exact Ne.symm (an30 _) | exact Ne.symm (an12 _) | exact Ne.symm (an13 _) | exact Ne.symm (an23 _) | omega)), (hc2.keeps hk4).sameBut hs5 (by (first | exact an10 _ | exact an20 _ | exact an30 _ | exact an12 _ | exact an13 _ | exact an23 _ | exact Ne.symm (an10 _) | exact Ne.symm (an20 _) | exact Ne.symm (an30 _) | exact Ne.symm (an12 _) | exact Ne.symm (an13 _) | exact Ne.symm (an23 _) | omega)), ?_, ?_, ?_, by rw [List.length_append, List.length_singleton]; exact hlt, by simp⟩
        · have := W.frame _ _ h5 hst2 fun b hb o' e => hs5.extBut b o' (by simp at hb; subst hb; (first | exact an10 _ | exact an20 _ | exact an30 _ | exact an12 _ | exact an13 _ | exact an23 _ | exact Ne.symm (an10 _) | exact Ne.symm (an20 _) | exact Ne.symm (an30 _) | exact Ne.symm (an12 _) | exact Ne.symm (an13 _) | exact Ne.symm (an23 _) | omega)) (hk4 b o' e)
          simpa using this
        · obtain ⟨k5, e5⟩ := hl5
          exact ⟨k5, by rw [e5]; simp⟩
        · exact fun b o' e => hs5.extBut b o' (nI b o' e).2.1 (hk4 b o' (hold2 b o' e))
        · intro p hp
          rcases List.mem_append.mp hp with hp | hp
          · obtain ⟨q1, q2, q3, q4, q5, q6⟩ := hins p hp
            exact ⟨hs5.extBut _ _ q4 (hk4 _ _ (e2 _ _ q3 q6 q1)), q2, q3, q4, q5, q6⟩
          · simp at hp
            subst hp
            exact ⟨hs5.extBut _ _ hD1 hD4, hDs, hDI, hD1, hD2, hD3⟩
        · have : y.cps.toList.take (ins.length + 1) = y.cps.toList.take ins.length ++ [c] := by
            rw [List.take_add_one]; simp [hc]
          rw [List.length_append, List.length_singleton, this]
          exact hpair.snoc hR
      · have hin : ins.length = y.cps.size := by (first | exact an10 _ | exact an20 _ | exact an30 _ | exact an12 _ | exact an13 _ | exact an23 _ | exact Ne.symm (an10 _) | exact Ne.symm (an20 _) | exact Ne.symm (an30 _) | exact Ne.symm (an12 _) | exact Ne.symm (an13 _) | exact Ne.symm (an23 _) | omega)
        refine W.done _ _ _ (hin ▸ hst') fun h1 tk1 hk1 => ?_
        have e1 : ∀ b o', b ≠ n → h'.get? b = some o' → h1.get? b = some o' := fun b o' hb e => hk1 b o' (by simpa using hb) e
        refine ⟨m', hns.at' fun o' e => e1 _ _ (by (first | exact an10 _ | exact an20 _ | exact an30 _ | exact an12 _ | exact an13 _ | exact an23 _ | exact Ne.symm (an10 _) | exact Ne.symm (an20 _) | exact Ne.symm (an30 _) | exact Ne.symm (an12 _) | exact Ne.symm (an13 _) | exact Ne.symm (an23 _) | omega)) e, fun h2 hs2 => ?_⟩
        have e2 : ∀ b o', b ≠ n → b ≠ n + 2 → h'.get? b = some o' → h2.get? b = some o' := fun b o' hb hb2 e => hs2.extBut b o' hb2 (e1 b o' hb e)
        have hold2 : ∀ b o', s.heap.get? b = some o' → h2.get? b = some o' := fun b o' e => e2 b o' (nI b o' e).1 (nI b o' e).2.2.1 (hkeep b o' e)
        have fresh : ∀ D, s.heap.get? D = none → (D ≠ L ∧ h₀.get? D = none) ∧ ∀ q ∈ led, q.1 ≠ D := fun D hD => by
          refine ⟨⟨?_, ?_⟩, ?_⟩
          · rintro rfl; obtain ⟨oL, es, ep, hL, _⟩ := F.ns; rw [hD] at hL; cases hL
          · cases q : h₀.get? D with
            | none => rfl
            | some o' => have := F.keep _ _ q; rw [hD] at this; cases this
          · intro q hq e
            have := (N q hq).1
            rw [e, hD] at this; cases this
        have hsn : s.heap.get? (n + 1) = none := by
          cases q : s.heap.get? (n + 1) with
          | none => rfl
          | some o' => exact absurd rfl (nI _ _ q).2.1
        refine hq (n + 1) h2 tk1 ins k' (F.keeps hold2) ?_ ?_ (fresh _ hsn).2 (fun q hq p hp => (fresh _ (hins p hp).2.1).2 q hq)
        · intro q hq
          rw [List.cons_append, List.mem_cons, List.mem_append] at hq
          rcases hq with rfl | hq | hq
          · exact ⟨e2 _ _ (by (first | exact an10 _ | exact an20 _ | exact an30 _ | exact an12 _ | exact an13 _ | exact an23 _ | exact Ne.symm (an10 _) | exact Ne.symm (an20 _) | exact Ne.symm (an30 _) | exact Ne.symm (an12 _) | exact Ne.symm (an13 _) | exact Ne.symm (an23 _) | omega)) (by (first | exact an10 _ | exact an20 _ | exact an30 _ | exact an12 _ | exact an13 _ | exact an23 _ | exact Ne.symm (an10 _) | exact Ne.symm (an20 _) | exact Ne.symm (an30 _) | exact Ne.symm (an12 _) | exact Ne.symm (an13 _) | exact Ne.symm (an23 _) | omega)) hacc, (fresh _ hsn).1⟩
          · obtain ⟨p, hp, rfl⟩ := List.mem_map.mp hq
            obtain ⟨q1, q2, q3, q4, q5, q6⟩ := hins p hp
            exact ⟨e2 _ _ q3 q5 q1, (fresh _ q2).1⟩
          · exact ⟨hold2 _ _ (N q hq).1, (N q hq).2⟩
        · rw [hin, List.take_of_length_le (by simp)] at hpair
          exact hpair
    · exact accH
  exact codeAny_compStart_list loop (W.self 0 _ _ _ stH loop)
end
end Mine
end
section
open PySem PySem.W PySem.Calls PyProof.Rows
set_option maxRecDepth 100000
namespace Mine
theorem paired_get {α β : Type} {F : α → β → Prop} : ∀ {l₁ : List α} {l₂ : List β}, Paired F l₁ l₂ → ∀ {i : Nat} {a : α}, l₁[i]? = some a → ∃ b, l₂[i]? = some b ∧ F a b
  | _, _, .cons h _, 0, a, e => by cases e; exact ⟨_, rfl, h⟩
  | _, _, .cons _ t, i + 1, a, e => by
    have := paired_get t (i := i) (a := a) (by simpa using e)
    simpa using this
/-- assignment of a comprehension to a local name: what is left once its list has been read -/
def CompGoA (prog : Program) (w : World) (A : Around) (env : Env) (scope : Scope) (cl : List (Str × Addr)) (x y : Str) (ifs : List Expr) (elt : Expr) (p : Value → Bool) (G : Value → Value → Prop) (Q : Flow → Shared → Prop) (E : Value → Shared → Prop) (xv : Value) (s : Shared) : Prop :=
  wpAny (model prog w) A (pyIter xv) (fun it s₂ => ∃ I fp wr n P St m, it = .ref I ∧ Walks prog w A I fp wr n P St ∧ n ≤ sizeLine ∧ St 0 s₂.heap ∧ (∀ b ∈ fp, b < s₂.heap.objs.size) ∧
      env.locals ∉ wr ∧ s₂.heap.Ns env.locals m ∧ QuietOnC prog w A env scope cl x ifs elt wr P p G s₂ ∧
      (∀ D h' tk ys (vs : List Value), s₂.heap.get? D = none → h'.IsList D ys → h'.PlainList D ys → vs.length = n → (∀ j v, vs[j]? = some v → P j v) → Paired G (vs.filter p) ys.toList →
        h'.Ns env.locals (fun z => if z = y then some (.ref D) else m z) → (∀ b o, b ≠ env.locals → b ∉ wr → s₂.heap.get? b = some o → h'.get? b = some o) → Q .next { s₂ with heap := h', toks := tk })) E s
theorem comp_freeA {prog : Program} {w : World} {A : Around} {env : Env} {E : Value → Shared → Prop} {s : Shared} {elt iter : Expr} {x y : Str} {px py : Pos} {ifs : List Expr} {scope : Scope} {cl : List (Str × Addr)} {pos spos : Pos} {Q : Flow → Shared → Prop} (p : Value → Bool) (G : Value → Value → Prop)
    (hsw : swapsWith (.ListComp elt [⟨.Name x px, iter, ifs, 0⟩] scope pos) (some (.Name y py)) spos.line env = pure true)
    (hclos : closureFor scope env = pure cl) (hcell : ∀ y ∈ scope.names, y.2 ≠ .cell) (hkind : scope.kind = .function)
    (hnames : ∀ y ∈ scope.names, y.2 = .local → scope.names.lookup y.1 = some .local) (hx : scope.names.lookup x = some .local)
    (hy : env.kindOf y = some .local) (hp : (env.scope.kind == .class || (env.scope.kind == .module && env.locals != env.globals)) = false)
    (h : wpAny (model prog w) A (eval iter env) (fun xv s₁ => CompGoA prog w A env scope cl x y ifs elt p G Q E xv s₁) E s)
    (hs : ∀ x, foldedSetIterable iter env x = pure x := by intro _; rfl) :
    wpAny (model prog w) A (exec (.Assign [.Name y py] (.ListComp elt [⟨.Name x px, iter, ifs, 0⟩] scope pos) spos) env) Q E s := wpAny_Assign_ListComp_free p G hsw hclos hcell hkind hnames hx hy hp h hs
section
variable {prog : Program} {w : World} {A : Around} {E : Value → Shared → Prop} {s : Shared} {h₀ : Heap} {m : Loc} {led : Led} {a : Addr} {vs : List Value} {n : Nat}
  {env : Env} {scope : Scope} {cl : List (Str × Addr)} {x y : Str} {ifs : List Expr} {elt : Expr} {p : Value → Bool} {G : Value → Value → Prop} {Q : Flow → Shared → Prop}
theorem iter_walk_listA (hh : A.handled = none) (F : Fr h₀ env.locals s.heap m) (N : News h₀ env.locals s.heap led) (hm : s.heap.IsList a vs.toArray) (hsz : vs.length ≤ 1000)
    (htest : ∀ C v s₃ m₃ E', v ∈ vs → s₃.heap.Ns C m₃ → m₃ x = some v → (∀ b o, s.heap.get? b = some o → s₃.heap.get? b = some o) → C ≠ env.locals →
      wpAny (model prog w) A (forIn ifs true fun c r => if r = true then do let ok ← isTrue c (compEnvC scope cl C env) (eval c (compEnvC scope cl C env)); pure (ForInStep.yield ok) else pure (ForInStep.yield r))
        (fun ok s₄ => ok = p v ∧ Keeps s₃ s₄) E' s₃)
    (helt : ∀ C v s₃ m₃ E', v ∈ vs → p v = true → s₃.heap.Ns C m₃ → m₃ x = some v → (∀ b o, s.heap.get? b = some o → s₃.heap.get? b = some o) → C ≠ env.locals →
      wpAny (model prog w) A (eval elt (compEnvC scope cl C env)) (fun y s₄ => G v y ∧ Keeps s₃ s₄) E' s₃)
    (hq : ∀ D h' tk ys k, Fr h₀ env.locals h' (fun z => if z = y then some (.ref D) else m z) → News h₀ env.locals h' ((D, lst ys k) :: led) → (∀ q ∈ led, q.1 ≠ D) → Paired G (vs.filter p) ys → Q .next { s with heap := h', toks := tk }) :
    CompGoA prog w A env scope cl x y ifs elt p G Q E (.ref a) s := by
  refine wpAny_pyIter_list hm ?_
  have hal : a < s.heap.objs.size := by obtain ⟨o, ho, _⟩ := hm; exact Heap.lt_size ho
  have hL : env.locals < s.heap.objs.size := F.ns.lt
  have hold : ∀ b o, s.heap.get? b = some o → (s.heap.push { cls := .type "list_iterator", data := .fields #[.ref a, .int 0 0] }).get? b = some o := fun _ _ e => Heap.get?_push_of_some _ e
  have hne : ∀ b o, s.heap.get? b = some o → b ∉ [s.heap.objs.size] := fun b o e q => by simp at q; exact absurd (Heap.lt_size e) (by rw [q]; exact Nat.lt_irrefl _)
  refine ⟨s.heap.objs.size, [s.heap.objs.size, a], [s.heap.objs.size], vs.toArray.size, _, _, m, rfl, Walks.list hh s.heap.objs.size a (Nat.ne_of_lt hal) vs.toArray, by rw [List.size_toArray, sizeLine_eq]; omega, ?_, ?_, ?_, ?_, ?_, ?_⟩
  · refine ⟨⟨_, Heap.get?_push_size _ rfl, rfl, rfl⟩, ?_⟩
    obtain ⟨o, ho, r⟩ := hm
    exact ⟨o, hold _ _ ho, r⟩
  · intro b hb
    dsimp only
    rw [Heap.size_push]
    simp at hb
    rcases hb with rfl | rfl
    · exact Nat.lt_succ_self _
    · exact Nat.lt_succ_of_lt hal
  · intro q; simp at q; rw [q] at hL; exact Nat.lt_irrefl _ hL
  · exact F.ns.keeps hold
  · constructor
    · intro C i v s₃ m₃ E' hC hv hns hmx hk htk
      refine htest C v s₃ m₃ E' (by simpa using List.mem_of_getElem? (by simpa using hv)) hns hmx (fun b o e => hk b o (hne b o e) (hold b o e)) ?_
      dsimp only at hC
      rw [Heap.size_push] at hC
      exact Nat.ne_of_gt (Nat.lt_of_lt_of_le hL (Nat.le_of_succ_le hC))
    · intro C i v s₃ m₃ E' hC hv hp hns hmx hk htk
      refine helt C v s₃ m₃ E' (by simpa using List.mem_of_getElem? (by simpa using hv)) hp hns hmx (fun b o e => hk b o (hne b o e) (hold b o e)) ?_
      dsimp only at hC
      rw [Heap.size_push] at hC
      exact Nat.ne_of_gt (Nat.lt_of_lt_of_le hL (Nat.le_of_succ_le hC))
  · intro D h' tk ys vs' hD hl hpl hlen hP hpair hns' hk
    have hall : ∀ b o, b ≠ env.locals → s.heap.get? b = some o → h'.get? b = some o := fun b o hb e => hk b o hb (hne b o e) (hold b o e)
    have hev : vs' = vs := by
      apply List.ext_getElem?
      intro j
      by_cases hj : j < vs'.length
      · rw [List.getElem?_eq_getElem hj]
        have := hP j _ (List.getElem?_eq_getElem hj)
        simpa using this.symm
      · rw [List.getElem?_eq_none (by omega), List.getElem?_eq_none (by simp at hlen; omega)]
    subst hev
    obtain ⟨k, hk'⟩ := hpl
    have hDn : s.heap.get? D = none := by
      cases q : s.heap.get? D with
      | none => rfl
      | some o => have := hold _ _ q; dsimp only at hD; rw [hD] at this; cases this
    have hLn : h₀.get? env.locals = none := by
      cases q : h₀.get? env.locals with
      | none => rfl
      | some o => exact absurd (Heap.lt_size q) (Nat.not_lt.mpr F.above)
    refine hq D h' tk ys.toList k ⟨hns', fun b o e => hall b o (fun q => by rw [q, hLn] at e; cases e) (F.keep b o e), F.above⟩ ?_ ?_ hpair
    · intro q hq
      cases hq with
      | head =>
        refine ⟨by simpa using hk', ?_, ?_⟩
        · intro q; obtain ⟨oL, es, ep, hL, _⟩ := F.ns; dsimp only at q; rw [q, hL] at hDn; cases hDn
        · cases q : h₀.get? D with
          | none => rfl
          | some o => have := F.keep _ _ q; rw [hDn] at this; cases this
      | tail _ hq => exact ⟨hall _ _ (N q hq).2.1 (N q hq).1, (N q hq).2⟩
    · intro q hq e
      have := (N q hq).1
      rw [e, hDn] at this; cases this
/-- an item of a list, whatever it is -/
theorem item_any {value slice : PySem.Expr} {l : Addr} {vs : List Value} {i : Nat} {v : Value} {u : Tok} {Q : Value → Shared → Prop} (hl : s.heap.IsList l vs.toArray) (hv : vs[i]? = some v) (hi : i ≤ 100) (h : Q v s)
    (hs : subscripted slice false (.ref l) (.int (i : Int) u) = operate [.ref l, .int (i : Int) u] (getItem (.ref l) (.int (i : Int) u)) := by with_unfolding_all rfl) :
    wpAny (model prog w) A (subscriptTail value slice (.ref l) (.int (i : Int) u)) Q E s :=
  tail_any hl.typeIs slot_list_getitem.lookup (wpAny_getItem_list hl (by omega) (by omega) (x := v) (by simpa using hv) h) hs
end
end Mine
end
section
open PySem PySem.W PySem.Calls PyProof.Rows PySem.SeqAt
namespace Mine
theorem lay_strs : ∀ xs : List Str, (∀ x ∈ xs, PyData.strOk x = true) → PyData.canLayAll0 (xs.map PyData.str) = true
  | [], _ => rfl
  | x :: r, h => by simp [PyData.canLayAll0, PyData.canLay0, lay_strs r fun y hy => h y (.tail _ hy), h x (.head _)]
theorem depth_strs : ∀ xs : List Str, PyData.depthAll (xs.map PyData.str) = 0
  | [] => rfl
  | _ :: r => by simp [PyData.depthAll, PyData.depth, depth_strs r]
theorem shaped_strs (xs : List Str) (h : ∀ x ∈ xs, PyData.strOk x = true) : shaped (.list (xs.map PyData.str)) = true := by
  simp [shaped, PyData.canLay0, PyData.depth, lay_strs xs h, depth_strs]
theorem eqv_strs : ∀ xs ys : List Str, PyData.eqvAll (xs.map PyData.str) (ys.map PyData.str) = decide (xs = ys)
  | [], [] => by simp [PyData.eqvAll]
  | [], _ :: _ => by simp [PyData.eqvAll]
  | _ :: _, [] => by simp [PyData.eqvAll]
  | a :: r, b :: t => by
    simp only [List.map_cons, PyData.eqvAll, PyData.eqv, eqv_strs r t]
    by_cases h : a = b <;> by_cases h' : r = t <;> simp [h, h']
section
variable {prog : Program} {w : World} {A : Around} {E : Value → Shared → Prop} {s : Shared} {a b : Addr} {vs us : List Value} {xs ys : List Str} {Q : Value → Shared → Prop}
theorem eq_strsK (ha : s.heap.IsList a vs.toArray) (hi : StrsAre vs xs) (hb : s.heap.IsList b us.toArray) (hj : StrsAre us ys) (hx : ∀ x ∈ xs, PyData.strOk x = true) (hy : ∀ x ∈ ys, PyData.strOk x = true) (hu : A.units + 64 < cLine) (h : Q (.bool (decide (xs = ys))) s) :
    wpAny (model prog w) A (compareOp .Eq (.ref a) (.ref b)) Q E s :=
  eq_dataH (reads_newData ha hi.carried) (reads_newData hb hj.carried) (shaped_strs xs hx) (shaped_strs ys hy) hu (by rw [PyData.eqv, eqv_strs]; exact h)
theorem ne_strsK (ha : s.heap.IsList a vs.toArray) (hi : StrsAre vs xs) (hb : s.heap.IsList b us.toArray) (hj : StrsAre us ys) (hx : ∀ x ∈ xs, PyData.strOk x = true) (hy : ∀ x ∈ ys, PyData.strOk x = true) (hu : A.units + 64 < cLine) (h : Q (.bool (!decide (xs = ys))) s) :
    wpAny (model prog w) A (compareOp .NotEq (.ref a) (.ref b)) Q E s :=
  ne_dataH (reads_newData ha hi.carried) (reads_newData hb hj.carried) (shaped_strs xs hx) (shaped_strs ys hy) hu (by rw [PyData.eqv, eqv_strs]; exact h)
end
theorem small_le {j : Nat} (h : j ≤ 6) : Builtin.Range.small 0 (j : Int) 1 = true := by
  have : j = 0 ∨ j = 1 ∨ j = 2 ∨ j = 3 ∨ j = 4 ∨ j = 5 ∨ j = 6 := by omega
  rcases this with rfl | rfl | rfl | rfl | rfl | rfl | rfl <;> decide
theorem rsize0 (n : Nat) : Builtin.Range.rangeSize 0 (n : Int) 1 = n := by
  have := rsize 0 n
  rwa [Int.zero_add] at this
def adj (ls : List Str) (a b : Nat) : Bool := ls.any (· == pairS (a, b))
def frd (ls : List Str) (c : Nat) : List Str := (marks.filter (adj ls c)).map sgl
/-- the one's friends that the other lacks, these two aside -/
def mineT (ls : List Str) (b : Nat) (l : Str) : Bool := (!(l == sgl b)) && !((frd ls b).any (· == l))
def mineL (ls : List Str) (a b : Nat) : List Str := (frd ls a).filter (mineT ls b)
def bad (ls : List Str) (i j : Nat) : Bool := (!decide (mineL ls (marks.getD i 0) (marks.getD j 0) = [])) && !decide (mineL ls (marks.getD j 0) (marks.getD i 0) = [])
theorem abc_item {j : Nat} (h : j < 6) : Txt.item (Str.ofString "abcdef") (j : Int) = sgl (marks.getD j 0) := by
  have : j = 0 ∨ j = 1 ∨ j = 2 ∨ j = 3 ∨ j = 4 ∨ j = 5 := by omega
  rcases this with rfl | rfl | rfl | rfl | rfl | rfl <;> decide +kernel
theorem abc_len : (Str.ofString "abcdef").length = 6 := by decide +kernel
theorem fits_ss {j : Nat} (h : j < 6) : fitsSsize (j : Int) = true := by
  have : j = 0 ∨ j = 1 ∨ j = 2 ∨ j = 3 ∨ j = 4 ∨ j = 5 := by omega
  rcases this with rfl | rfl | rfl | rfl | rfl | rfl <;> decide +kernel
def isMine (ls : List Str) (b : Nat) (v : Value) : Bool := match v with
  | .str l _ => mineT ls b l
  | _ => false
theorem strs_mine {ls : List Str} {a b : Nat} {vs ys : List Value} (h : StrsAre vs (frd ls a)) (hp : Paired (fun v y => v = y) (vs.filter (isMine ls b)) ys) : StrsAre ys (mineL ls a b) := by
  rw [paired_eq hp]
  exact strs_filter (fun _ _ => rfl) h
theorem marks_get {i : Nat} (h : i < 6) : marks[i]? = some (marks.getD i 0) := by
  have : i = 0 ∨ i = 1 ∨ i = 2 ∨ i = 3 ∨ i = 4 ∨ i = 5 := by omega
  rcases this with rfl | rfl | rfl | rfl | rfl | rfl <;> rfl
theorem frd_len (ls : List Str) (c : Nat) : (frd ls c).length ≤ 1000 := by
  unfold frd
  rw [List.length_map]
  exact Nat.le_trans (List.length_filter_le _ _) (by decide)
theorem ok_mine (ls : List Str) (a b : Nat) : ∀ x ∈ mineL ls a b, PyData.strOk x = true := by
  intro x hx
  obtain ⟨c, hc, rfl⟩ := List.mem_map.mp (List.mem_filter.mp hx |>.1)
  have hc := (List.mem_filter.mp hc).1
  have : ∀ c ∈ marks, PyData.strOk (sgl c) = true := by decide +kernel
  exact this c hc
end Mine
end
section
open PySem PySem.W PyProof.Rows
set_option pp.deepTerms false
set_option pp.deepTerms.threshold 3
set_option pp.maxSteps 3000
namespace Mine
local macro_rules | `(tactic| walk_at "st") => `(tactic| ((with_reducible show wpAny _ _ _ _ _ _); (fail_if_success (with_reducible show wpAny _ _ (exec (Stmt.While _ _ _ _) _) _ _ _)); (fail_if_success (with_reducible show wpAny _ _ (exec (Stmt.For _ _ _ _ _) _) _ _ _)); (fail_if_success (with_reducible show wpAny _ _ (call (Value.ref _) _ _) _ _ _)); first | (k_unfold; (try dsimp only)) | walk1 | (dsimp only; walk1)))
local macro_rules | `(tactic| walk_at "go") => `(tactic| repeat' walk_at "st")
local macro_rules | `(tactic| walk_at "fr") => `(tactic| (refine' fr_fin ?frl ?frr; (case frl => repeat' (first | with_reducible apply B_cons' | exact rfl)); (case frr => repeat' (first | exact trivial | refine And.intro (by with_unfolding_all rfl) ?_))))
local macro_rules | `(tactic| walk_at "fs") => `(tactic| (unfold fitsSsize; simp; omega))
local macro_rules | `(tactic| walk_at "ret") => `(tactic| (refine ⟨_, _, _, _, rfl, by assumption, by assumption, ?_⟩))
local macro_rules | `(tactic| walk_at "sj") => `(tactic| ((fail_if_success (with_reducible show wpAny _ _ (subscriptTail _ (Expr.Slice _ _ _ _) (Value.ref _) _) _ _ _)); (fail_if_success (with_reducible show wpAny _ _ (call (Value.builtin "len") [Value.ref _]) _ _ _)); (fail_if_success (with_reducible show wpAny _ _ (call (Value.builtin "list.pop") _) _ _ _)); (fail_if_success (with_reducible show wpAny _ _ (call (Value.builtin "list.insert") _) _ _ _)); (fail_if_success (with_reducible show wpAny _ _ (call (Value.builtin "list.append") _) _ _ _));  (fail_if_success (with_reducible show wpAny _ _ (call (Value.builtin "sorted") _ _) _ _ _));  walk_at "sti"))
local macro_rules | `(tactic| walk_at "goj") => `(tactic| repeat' walk_at "sj")
local macro_rules | `(tactic| walk_at "sti") => `(tactic| first | walk_at "st" | ((with_reducible show Frag.In _ _ ∧ _); refine ⟨by k_in, ?_⟩) | ((with_reducible show ite _ _ _); first | (rw [if_pos (by first | rfl | decide)]) | (rw [if_neg (by first | decide | (intro h; cases h))]) | walk1))
local macro_rules | `(tactic| walk_at "goi") => `(tactic| repeat' walk_at "sti")
local macro_rules | `(tactic| walk_at "fx") => `(tactic| (refine' fr_front ?frl ?frr; (case frl => repeat' (first | with_reducible apply B_cons' | exact rfl)); (case frr => repeat' (first | exact trivial | refine And.intro (by with_unfolding_all rfl) ?_))))
local macro_rules | `(tactic| walk_at "sk") => `(tactic| ((fail_if_success (with_reducible show wpAny _ _ (eval (Expr.ListComp _ _ _ _) _) _ _ _)); (fail_if_success (with_reducible show wpAny _ _ (exec (Stmt.Assign _ (Expr.ListComp _ _ _ _) _) _) _ _ _)); walk_at "sj"))
local macro_rules | `(tactic| walk_at "gok") => `(tactic| repeat' walk_at "sk")
theorem mine_not {ls : List Str} {b : Nat} {y : Str} (h : (!(y == sgl b)) = false) : false = mineT ls b y := by unfold mineT; rw [h]; rfl
theorem mine_and {ls : List Str} {b : Nat} {y : Str} (h : (!(y == sgl b)) = true) : (!((frd ls b).any (· == y))) = mineT ls b y := by unfold mineT; rw [h]; rfl
set_option maxRecDepth 100000 in
set_option maxHeartbeats 8000000 in
theorem mine_test {prog : Program} {w : World} {A : Around} {E : Value → Shared → Prop} {s : Shared} {cenv : Env} {nm : Str} {whole : Sem Value} {p1 p2 p3 p4 p5 p6 p7 p8 p9 p10 p11 : Pos} {cN cF D Dt : Addr} {refs yst : List Value} {t : Nat} {tt ty : Tok} {y : Str} {ls : List Str} {m₃ : Loc} {kk : Nat}
    (hk : cenv.scope.kind = .function) (k1 : cenv.kindOf "mark" = some .local) (k2 : cenv.kindOf nm = some .cell) (k3 : cenv.kindOf "friends" = some .cell) (c1 : cenv.cells.lookup nm = some cN) (c2 : cenv.cells.lookup ("friends" : Str) = some cF) (hnm : (nm == ("__debug__" : Str)) = false)
    (hns : s.heap.Ns cenv.locals m₃) (hm : m₃ "mark" = some (.str y ty)) (hN : s.heap.IsCell cN (some (.int (t : Int) tt))) (hF : s.heap.IsCell cF (some (.ref D))) (lD : s.heap.IsList D refs.toArray) (hrt : refs[t]? = some (.ref Dt)) (lt' : s.heap.IsList Dt yst.toArray) (hst : StrsAre yst (frd ls (marks.getD t 0))) (ht : t < 6) :
    wpAny (model prog w) A (isTrue (.BoolOp .And [.Compare (.Name "mark" p1) [.NotEq] [.Subscript (.Constant (.str "abcdef") kk p2) (.Name nm p3) p4] p5, .Compare (.Name "mark" p6) [.NotIn] [.Subscript (.Name "friends" p7) (.Name nm p8) p9] p10] p11) cenv whole)
      (fun ok s' => ok = mineT ls (marks.getD t 0) y ∧ Keeps s s') E s := by
  w_top off
  walk_at "sti"
  walk_at "sti"
  refine wpAny_Name (wpAny_loadName_local hk k1 hns hm ?_) (by decide)
  walk_at "sti"
  walk_at "sti"
  refine wpAny_Name (wpAny_loadName_cell hk k2 c1 hN ?_) hnm
  refine item_str (fits_ss ht) (by rw [abc_len]; omega) (by rw [abc_len]; omega) (fun _ => ?_)
  rw [abc_item ht]
  walk_at "sti"
  refine wpAny_truthy_bool ?_
  cases hc : (y != sgl (marks.getD t 0)) with
  | false =>
    rw [if_neg (by decide)]
    exact ⟨mine_not hc, _, _, rfl, fun _ _ e => e⟩
  | true =>
    rw [if_pos rfl]
    walk_at "sti"
    walk_at "sti"
    refine wpAny_Name (wpAny_loadName_local hk k1 hns hm ?_) (by decide)
    walk_at "sti"
    refine wpAny_Name (wpAny_loadName_cell hk k3 c2 hF ?_) (by decide)
    refine wpAny_Name (wpAny_loadName_cell hk k2 c1 hN ?_) hnm
    refine item_any lD hrt (by omega) ?_
    refine notin_list_strs lt' hst ?_
    refine wpAny_truthy_bool ?_
    have hm2 := mine_and (ls := ls) hc
    cases hc2 : (!((frd ls (marks.getD t 0)).any (· == y))) with
    | false =>
      rw [if_neg (by decide)]
      exact ⟨hc2.symm.trans hm2, _, _, rfl, fun _ _ e => e⟩
    | true =>
      rw [if_pos rfl]
      walk_at "sti"
      exact ⟨hc2.symm.trans hm2, _, _, rfl, fun _ _ e => e⟩
end Mine
end
section
open PySem PySem.W PyProof.Rows
set_option pp.deepTerms false
set_option pp.deepTerms.threshold 3
set_option pp.maxSteps 3000
namespace Mine
local macro_rules | `(tactic| walk_at "st") => `(tactic| ((with_reducible show wpAny _ _ _ _ _ _); (fail_if_success (with_reducible show wpAny _ _ (exec (Stmt.While _ _ _ _) _) _ _ _)); (fail_if_success (with_reducible show wpAny _ _ (exec (Stmt.For _ _ _ _ _) _) _ _ _)); (fail_if_success (with_reducible show wpAny _ _ (call (Value.ref _) _ _) _ _ _)); first | (k_unfold; (try dsimp only)) | walk1 | (dsimp only; walk1)))
local macro_rules | `(tactic| walk_at "go") => `(tactic| repeat' walk_at "st")
local macro_rules | `(tactic| walk_at "fr") => `(tactic| (refine' fr_fin ?frl ?frr; (case frl => repeat' (first | with_reducible apply B_cons' | exact rfl)); (case frr => repeat' (first | exact trivial | refine And.intro (by with_unfolding_all rfl) ?_))))
local macro_rules | `(tactic| walk_at "fs") => `(tactic| (unfold fitsSsize; simp; omega))
local macro_rules | `(tactic| walk_at "ret") => `(tactic| (refine ⟨_, _, _, _, rfl, by assumption, by assumption, ?_⟩))
local macro_rules | `(tactic| walk_at "sj") => `(tactic| ((fail_if_success (with_reducible show wpAny _ _ (subscriptTail _ (Expr.Slice _ _ _ _) (Value.ref _) _) _ _ _)); (fail_if_success (with_reducible show wpAny _ _ (call (Value.builtin "len") [Value.ref _]) _ _ _)); (fail_if_success (with_reducible show wpAny _ _ (call (Value.builtin "list.pop") _) _ _ _)); (fail_if_success (with_reducible show wpAny _ _ (call (Value.builtin "list.insert") _) _ _ _)); (fail_if_success (with_reducible show wpAny _ _ (call (Value.builtin "list.append") _) _ _ _));  (fail_if_success (with_reducible show wpAny _ _ (call (Value.builtin "sorted") _ _) _ _ _));  walk_at "sti"))
local macro_rules | `(tactic| walk_at "goj") => `(tactic| repeat' walk_at "sj")
local macro_rules | `(tactic| walk_at "sti") => `(tactic| first | walk_at "st" | ((with_reducible show Frag.In _ _ ∧ _); refine ⟨by k_in, ?_⟩) | ((with_reducible show ite _ _ _); first | (rw [if_pos (by first | rfl | decide)]) | (rw [if_neg (by first | decide | (intro h; cases h))]) | walk1))
local macro_rules | `(tactic| walk_at "goi") => `(tactic| repeat' walk_at "sti")
local macro_rules | `(tactic| walk_at "fx") => `(tactic| (refine' fr_front ?frl ?frr; (case frl => repeat' (first | with_reducible apply B_cons' | exact rfl)); (case frr => repeat' (first | exact trivial | refine And.intro (by with_unfolding_all rfl) ?_))))
local macro_rules | `(tactic| walk_at "sk") => `(tactic| ((fail_if_success (with_reducible show wpAny _ _ (eval (Expr.ListComp _ _ _ _) _) _ _ _)); (fail_if_success (with_reducible show wpAny _ _ (exec (Stmt.Assign _ (Expr.ListComp _ _ _ _) _) _) _ _ _)); (fail_if_success (with_reducible show wpAny _ _ (compareOp CmpOp.NotEq (Value.ref _) (Value.ref _)) _ _ _)); walk_at "sj"))
local macro_rules | `(tactic| walk_at "gok") => `(tactic| repeat' walk_at "sk")
set_option maxRecDepth 100000 in
set_option maxHeartbeats 8000000 in
theorem nst_ok (w : World) (mean mg mb) (lvs : List Value) (ls : List Str) (hls : StrsAre lvs ls)
    (al : Addr) (n : Nat) (rest : Led) (hml : (al, lst lvs n) ∈ rest) :
    CallsTo w mean mg mb 118 [.ref al] [] 20 rest (fun v n' => n' = rest ∧ ∃ b, v = .bool b ∧ (b = true ↔ ∀ i, i < 6 → ∀ k, k < i → bad ls i k = false)) := by
  w_top off
  refine calls_introD (need := 19) [("links", .ref al)] [] [("links", .ref al)] (fun n => [("two", n + 3), ("friends", n + 2), ("one", n + 1), ("links", n)]) rfl rfl (fun _ => rfl) (fun _ => rfl) (fun n x hx => ?_) ?nd rfl rfl rfl rfl rfl ?_
  case nd => decide
  · simp only [List.reverse_cons, List.reverse_nil, List.nil_append, List.mem_singleton] at hx
    subst hx
    exact .inr ⟨rfl, rfl⟩
  dsimp only [KK, looseL, prog]
  k_fill
  intro dp un gd outer A₀ base g L h₁ s₀ cells B F X N CA lt T hd hu
  obtain ⟨o2, of, oo, ol, rfl, d2, df, d1, dl⟩ := CA.four
  replace d2 : o2.data = .cell none := d2
  replace df : of.data = .cell none := df
  replace d1 : oo.data = .cell none := d1
  replace dl : ol.data = .cell (some (.ref al)) := dl
  replace N : News g L h₁ ((L + 4, o2) :: (L + 3, of) :: (L + 2, oo) :: (L + 1, ol) :: rest) := N
  walk_at "gok"
  walk_at "sj"
  walk_at "gok"
  refine comp_cell_str (cl := [("links", L + 1)]) (y := Str.ofString "abcdef") (fun c ys => StrsAre ys (frd ls c)) rfl F N (by decide +kernel) (by decide +kernel) rfl rfl (by decide) (fun _ => rfl) (fun _ => rfl) rfl ?_ ?_ ?_
  case refine_1 =>
    walk_at "sti"
    exact ⟨_, _, rfl, rfl⟩
  case refine_2 =>
    intro C cX c u s₃ m₃ E' hc hns hcell hk
    have FL := F.keeps hk
    refine comp_free (isSgl (adj ls c)) (fun v y => v = y) rfl (by decide) rfl (by decide) rfl ?_
    walk_at "sti"
    refine iter_walk_strG (adj ls c) rfl (by decide +kernel) ?_ ?_ ?_
    · intro C2 o u2 s₄ m₄ E2 hns4 hm4 hk4
      refine test_one ?_
      refine wpAny_isTrue_Compare1 ?_
      have hk' : ∀ b o, h₁.get? b = some o → s₄.heap.get? b = some o := fun b o e => hk4 b o (hk b o e)
      refine wpAny_Call_NameR (LCgL.ld_built (F.keeps hk') X T rfl PyProof.Rows.boot_min (by decide) ?_)
      walk_at "sti"
      walk_at "sti"
      walk_at "sti"
      refine wpAny_Name (wpAny_loadName_cell rfl rfl rfl (hcell.keeps hk4) ?_) (by decide)
      refine wpAny_Name (wpAny_loadName_local rfl rfl hns4 hm4 ?_) (by decide)
      refine add_two ?_
      intro t5 tk5
      walk_at "sti"
      walk_at "sti"
      walk_at "sti"
      refine wpAny_Name (wpAny_loadName_cell rfl rfl rfl (hcell.keeps hk4) ?_) (by decide)
      refine add_two ?_
      intro t6 tk6
      walk_at "sti"
      refine min_pairK rfl fun t7 h7 tk7 hk7 => ?_
      refine wpAny_Name (wpAny_loadName_cell rfl rfl rfl ⟨ol, hk7 _ _ (hk' _ _ (N (L + 1, ol) (.tail _ (.tail _ (.tail _ (.head _))))).1), dl⟩ ?_) (by decide)
      refine in_list_strs (News.isList (items := lvs.toArray) (fun p hp => ⟨hk7 _ _ (hk' _ _ (N p hp).1), (N p hp).2⟩) (.tail _ (.tail _ (.tail _ (.tail _ hml))))) hls ?_
      exact wpAny_pure ⟨rfl, _, _, rfl, hk7⟩
    · intro C2 v s₄ m₄ E2 hns4 hm4
      exact wpAny_Name (wpAny_loadName_local rfl rfl hns4 hm4 ⟨rfl, keeps_refl _⟩) (by decide)
    · intro D h' tk ys k hD hD' hk' hys
      refine ⟨⟨_, _, rfl, hk'⟩, D, ys, k, rfl, hD, hD', ?_⟩
      rw [abc_cps] at hys
      exact hys
  case refine_3 =>
    intro D h' tk ins k F1 N1 hp hlD hlI
    rw [abc_cps] at hp
    have hitem : ∀ i, i < 6 → ∃ Di ysi ki, (ins.map fun p => Value.ref p.1)[i]? = some (.ref Di) ∧ (Di, lst ysi ki) ∈ (ins.map fun p => (p.1, lst p.2.1 p.2.2) : Led) ∧ StrsAre ysi (frd ls (marks.getD i 0)) := by
      intro i hi
      obtain ⟨⟨Di, ysi, ki⟩, hb, hs⟩ := paired_get hp (marks_get hi)
      exact ⟨Di, ysi, ki, by simp [hb], List.mem_map.mpr ⟨_, List.mem_of_getElem? hb, rfl⟩, hs⟩
    have hmne : ∀ p ∈ (ins.map fun p => (p.1, lst p.2.1 p.2.2) : Led), ∀ q ∈ (L + 4, o2) :: (L + 3, of) :: (L + 2, oo) :: (L + 1, ol) :: rest, q.1 ≠ p.1 := by
      intro p hp q hq
      obtain ⟨p', hp', rfl⟩ := List.mem_map.mp hp
      exact hlI q hq p' hp'
    generalize (ins.map fun p => (p.1, lst p.2.1 p.2.2) : Led) = mid at hitem hmne N1
    generalize (ins.map fun p => Value.ref p.1) = refs at hitem N1
    clear hp hlI
    refine storeC (led := (L + 4, o2) :: (L + 2, oo) :: (D, lst refs k) :: (mid ++ (L + 1, ol) :: rest)) F1 (news_sub N1 ?_) ?_ rfl df rfl rfl ?_
    · intro p hp; simp only [List.mem_cons, List.mem_append, List.cons_append] at hp ⊢; rcases hp with h | h | h | h | h | h | h <;> simp [h]
    · intro p hp
      simp only [List.mem_cons, List.mem_append] at hp
      rcases hp with h | h | h | h | h | h
      · rw [h]; exact Nat.ne_of_gt (Nat.lt_succ_self _)
      · rw [h]; exact Nat.ne_of_lt (Nat.lt_succ_self _)
      · rw [h]; exact Ne.symm (hlD (L + 3, of) (.tail _ (.head _)))
      · exact Ne.symm (hmne p h (L + 3, of) (.tail _ (.head _)))
      · rw [h]; exact Nat.ne_of_lt (Nat.lt_succ_of_lt (Nat.lt_succ_self _))
      · exact Nat.ne_of_lt (Nat.lt_add_right 3 (lt p h))
    intro h2 of' F2 N2 df'
    have hK : ∃ led0 : Led, (L + 3, of') ∈ led0 ∧ (D, lst refs k) ∈ led0 ∧ (∀ p ∈ mid, p ∈ led0) ∧ (∀ p ∈ rest, p ∈ led0) ∧ (∀ p ∈ led0, p.1 ≠ L + 2 ∧ p.1 ≠ L + 4) ∧ News g L h2 ((L + 4, o2) :: (L + 2, oo) :: led0) := by
      refine ⟨(L + 3, of') :: (D, lst refs k) :: (mid ++ rest), .head _, .tail _ (.head _), fun p hp => .tail _ (.tail _ (List.mem_append_left _ hp)), fun p hp => .tail _ (.tail _ (List.mem_append_right _ hp)), ?_, news_sub N2 ?_⟩
      · intro p hp
        simp only [List.mem_cons, List.mem_append] at hp
        rcases hp with h | h | h | h
        · rw [h]; exact ⟨Nat.ne_of_gt (Nat.lt_succ_self _), Nat.ne_of_lt (Nat.lt_succ_self _)⟩
        · rw [h]; exact ⟨Ne.symm (hlD (L + 2, oo) (.tail _ (.tail _ (.head _)))), Ne.symm (hlD (L + 4, o2) (.head _))⟩
        · exact ⟨Ne.symm (hmne p h (L + 2, oo) (.tail _ (.tail _ (.head _)))), Ne.symm (hmne p h (L + 4, o2) (.head _))⟩
        · exact ⟨Nat.ne_of_lt (Nat.lt_of_lt_of_le (lt p h) (Nat.le_add_right _ _)), Nat.ne_of_lt (Nat.lt_of_lt_of_le (lt p h) (Nat.le_add_right _ _))⟩
      · intro p hp; simp only [List.mem_cons, List.mem_append] at hp ⊢; rcases hp with h | h | h | h | h | h <;> simp [h]
    obtain ⟨led0, m3, mD, mM, mR, ne0, N3⟩ := hK
    clear N1 N2 hlD hmne F1
    dsimp only
    walk_at "gok"
    refine for_start ?_
    walk_at "gok"
    rename_i h6 tk6 tr ur vr hr6 F6 N6 hk6
    refine iter_range F6 N6 hr6 (by decide) (n := 6) (by decide) ?_
    intro I h7 ltI F7 N7
    have hI4 : L + 4 < I := ltI (L + 4, o2) (by simp)
    have hI2 : L + 2 < I := ltI (L + 2, oo) (by simp)
    have hI0 : ∀ p ∈ led0, p.1 < I := fun p hp => ltI p (by simp [hp])
    clear F6 N6 hr6
    refine for_ind (ι := Nat) (fun j s' => ∃ h tk' oo o2 cv c2, ∃ ex : List (Str × Value), s' = { s₀ with heap := h, toks := tk' } ∧ Fr g L h (BX [] ex) ∧
      News g L h ((I, rgI (j : Int) (6 - (j : Int))) :: (L + 4, o2) :: (L + 2, oo) :: led0) ∧ oo.data = .cell cv ∧ o2.data = .cell c2 ∧ j ≤ 6 ∧ ∀ i, i < j → ∀ k, k < i → bad ls i k = false) (fun j => 6 - j) PassesOwn.never ?step 0 ?init
    case init =>
      refine ⟨_, _, oo, o2, _, _, ?_, rfl, fr_of F7 ?e, ?n, d1, d2, by omega, fun i hi => absurd hi (Nat.not_lt_zero i)⟩
      case n => exact news_sub N7 (by intro p hp; simp only [List.mem_cons] at hp ⊢; rcases hp with h | h | h | h <;> simp [h])
      case e => walk_at "fx"
    case step =>
      rintro j s' ⟨h, tk', oo, o2, cv, c2, ex, rfl, F, N, d1, d2, hj, hgood⟩ IH
      by_cases hlt : j < 6
      · refine next_range F N ?_ (by omega) ?_
        · intro p hp
          simp only [List.mem_cons] at hp
          rcases hp with h | h | h
          · rw [h]; exact Nat.ne_of_lt hI4
          · rw [h]; exact Nat.ne_of_lt hI2
          · exact Nat.ne_of_lt (hI0 p h)
        intro tc h8 tk8 F8 N8
        refine forStep_name ?_
        refine storeC (led := (I, rgI ((j : Int) + 1) (6 - (j : Int) - 1)) :: (L + 4, o2) :: led0) F8 (news_sub N8 ?_) ?_ rfl d1 rfl rfl ?_
        · intro p hp; simp only [List.mem_cons] at hp ⊢; rcases hp with h | h | h | h <;> simp [h]
        · intro p hp
          simp only [List.mem_cons] at hp
          rcases hp with h | h | h
          · rw [h]; exact Nat.ne_of_gt hI2
          · rw [h]; exact Nat.ne_of_gt (Nat.lt_of_lt_of_le (Nat.lt_succ_self _) (Nat.le_succ _))
          · exact (ne0 p h).1
        intro h9 oo9 F9 N9 d9
        clear F N F8 N8
        dsimp only
        walk_at "gok"
        refine for_start ?_
        walk_at "gok"
        rename_i h10 tk10 tr2 ur2 vr2 hr10 F10 N10 hk10
        refine iter_range F10 N10 hr10 (small_le (by omega)) (n := (j : Int)) (rsize0 j) ?_
        intro J h11 ltJ F11 N11
        have hJ4 : L + 4 < J := ltJ (L + 4, o2) (by simp)
        have hJ2 : L + 2 < J := ltJ (L + 2, oo9) (by simp)
        have hJI : I < J := ltJ (I, _) (.tail _ (.head _))
        have hJ0 : ∀ p ∈ led0, p.1 < J := fun p hp => ltJ p (by simp [hp])
        clear F10 N10 hr10
        refine for_ind (ι := Nat) (fun t s' => ∃ h tk' o2 c2, ∃ ex : List (Str × Value), s' = { s₀ with heap := h, toks := tk' } ∧ Fr g L h (BX [] ex) ∧
          News g L h ((J, rgI (t : Int) ((j : Int) - (t : Int))) :: (L + 4, o2) :: (L + 2, oo9) :: (I, rgI ((j : Int) + 1) (6 - (j : Int) - 1)) :: led0) ∧ o2.data = .cell c2 ∧ t ≤ j ∧ ∀ k, k < t → bad ls j k = false) (fun t => j - t) PassesOwn.never ?step2 0 ?init2
        case init2 =>
          refine ⟨_, _, o2, _, ?_, rfl, fr_of F11 ?e, ?n, d2, by omega, fun i hi => absurd hi (Nat.not_lt_zero i)⟩
          case n => exact news_sub N11 (by intro p hp; simp only [List.mem_cons] at hp ⊢; rcases hp with h | h | h | h | h <;> simp [h])
          case e => walk_at "fx"
        case step2 =>
          rintro t s' ⟨h, tk', o2, c2, ex, rfl, F, N, d2, ht, hg2⟩ IH2
          by_cases hlt2 : t < j
          · refine next_range F N ?_ (by omega) ?_
            · intro p hp
              simp only [List.mem_cons] at hp
              rcases hp with h | h | h | h
              · rw [h]; exact Nat.ne_of_lt hJ4
              · rw [h]; exact Nat.ne_of_lt hJ2
              · rw [h]; exact Nat.ne_of_lt hJI
              · exact Nat.ne_of_lt (hJ0 p h)
            intro tt h12 tk12 F12 N12
            refine forStep_name ?_
            refine storeC (led := (J, rgI ((t : Int) + 1) ((j : Int) - (t : Int) - 1)) :: (L + 2, oo9) :: (I, rgI ((j : Int) + 1) (6 - (j : Int) - 1)) :: led0) F12 (news_sub N12 ?_) ?_ rfl d2 rfl rfl ?_
            · intro p hp; simp only [List.mem_cons] at hp ⊢; rcases hp with h | h | h | h | h <;> simp [h]
            · intro p hp
              simp only [List.mem_cons] at hp
              rcases hp with h | h | h | h
              · rw [h]; exact Nat.ne_of_gt hJ4
              · rw [h]; exact Nat.ne_of_lt (Nat.lt_of_lt_of_le (Nat.lt_succ_self _) (Nat.le_succ _))
              · rw [h]; exact Nat.ne_of_gt hI4
              · exact (ne0 p h).2
            intro h13 o29 F13 N13 d29
            clear F N F12 N12 F11 N11
            dsimp only
            walk_at "gok"
            obtain ⟨Di, ysi, ki, hri, hmi, hsi⟩ := hitem j hlt
            obtain ⟨Dt, yst, kt, hrt, hmt, hst⟩ := hitem t (by omega)
            refine comp_freeA (isMine ls (marks.getD t 0)) (fun v y => v = y) rfl rfl (by decide) rfl (by decide) rfl rfl rfl ?_
            have N13' : ∀ p ∈ led0, h13.get? p.1 = some p.2 := fun p hp => (N13 p (by simp [hp])).1
            have c3 : h13.IsCell (L + 3) (some (.ref D)) := ⟨of', N13' _ m3, df'⟩
            have c4 : h13.IsCell (L + 4) (some (.int (t : Int) tt)) := ⟨o29, (N13 (L + 4, o29) (.head _)).1, d29⟩
            have c2' : h13.IsCell (L + 2) (some (.int (j : Int) tc)) := ⟨oo9, (N13 (L + 2, oo9) (by simp)).1, d9⟩
            have lD : h13.IsList D refs.toArray := ⟨_, N13' _ mD, rfl, _, rfl⟩
            have li : h13.IsList Di ysi.toArray := ⟨_, N13' _ (mM _ hmi), rfl, _, rfl⟩
            have lt' : h13.IsList Dt yst.toArray := ⟨_, N13' _ (mM _ hmt), rfl, _, rfl⟩
            walk_at "sti"
            refine wpAny_Name (wpAny_loadName_cell rfl rfl rfl c3 ?_) (by decide)
            refine wpAny_Name (wpAny_loadName_cell rfl rfl rfl c2' ?_) (by decide)
            refine item_any lD hri (by omega) ?_
            refine iter_walk_listA rfl F13 N13 li (by rw [StrsAre.length hsi]; exact frd_len _ _) ?_ ?_ ?_
            · intro C v s₃ m₃ E' hv hns hm hk hC
              obtain ⟨i, hi⟩ := List.getElem?_of_mem hv
              obtain ⟨y, ty, rfl, hy⟩ := hsi.item i v hi
              have hk' : ∀ b o, h13.get? b = some o → s₃.heap.get? b = some o := hk
              exact test_one (mine_test (nm := "two") rfl rfl rfl rfl rfl rfl (by decide) hns hm (c4.keeps hk') (c3.keeps hk') (lD.at fun o e => hk' _ o e) hrt (lt'.at fun o e => hk' _ o e) hst (by omega))
            · intro C v s₃ m₃ E' hv hp hns hm hk hC
              exact wpAny_Name (wpAny_loadName_local rfl rfl hns hm ⟨rfl, keeps_refl _⟩) (by decide)
            · intro D1 h14 tk14 ys1 k1 F14 N14 hD1 hpair1
              have hmine := strs_mine hsi hpair1
              dsimp only
              replace F14 : Fr g L h14 (BX [("mine", .ref D1)] ex) := fr_of F14 (B_cons' _ _ _ rfl)
              replace N14 : News g L h14 ((D1, lst ys1 k1) :: (L + 4, o29) :: (J, rgI ((t : Int) + 1) ((j : Int) - (t : Int) - 1)) :: (L + 2, oo9) :: (I, rgI ((j : Int) + 1) (6 - (j : Int) - 1)) :: led0) := N14
              clear F13 N13 c3 c4 c2' lD li lt'
              have N14' : ∀ p ∈ led0, h14.get? p.1 = some p.2 := fun p hp => (N14 p (by simp [hp])).1
              have c3 : h14.IsCell (L + 3) (some (.ref D)) := ⟨of', N14' _ m3, df'⟩
              have c4 : h14.IsCell (L + 4) (some (.int (t : Int) tt)) := ⟨o29, (N14 (L + 4, o29) (by simp)).1, d29⟩
              have c2' : h14.IsCell (L + 2) (some (.int (j : Int) tc)) := ⟨oo9, (N14 (L + 2, oo9) (by simp)).1, d9⟩
              have lD : h14.IsList D refs.toArray := ⟨_, N14' _ mD, rfl, _, rfl⟩
              have li : h14.IsList Di ysi.toArray := ⟨_, N14' _ (mM _ hmi), rfl, _, rfl⟩
              have lt' : h14.IsList Dt yst.toArray := ⟨_, N14' _ (mM _ hmt), rfl, _, rfl⟩
              walk_at "sk"
              refine comp_freeA (isMine ls (marks.getD j 0)) (fun v y => v = y) rfl rfl (by decide) rfl (by decide) rfl rfl rfl ?_
              walk_at "sti"
              refine wpAny_Name (wpAny_loadName_cell rfl rfl rfl c3 ?_) (by decide)
              refine wpAny_Name (wpAny_loadName_cell rfl rfl rfl c4 ?_) (by decide)
              refine item_any lD hrt (by omega) ?_
              refine iter_walk_listA rfl F14 N14 lt' (by rw [StrsAre.length hst]; exact frd_len _ _) ?_ ?_ ?_
              · intro C v s₃ m₃ E' hv hns hm hk hC
                obtain ⟨i, hi⟩ := List.getElem?_of_mem hv
                obtain ⟨y, ty, rfl, hy⟩ := hst.item i v hi
                have hk' : ∀ b o, h14.get? b = some o → s₃.heap.get? b = some o := hk
                exact test_one (mine_test (nm := "one") rfl rfl rfl rfl rfl rfl (by decide) hns hm (c2'.keeps hk') (c3.keeps hk') (lD.at fun o e => hk' _ o e) hri (li.at fun o e => hk' _ o e) hsi (by omega))
              · intro C v s₃ m₃ E' hv hp hns hm hk hC
                exact wpAny_Name (wpAny_loadName_local rfl rfl hns hm ⟨rfl, keeps_refl _⟩) (by decide)
              · intro D2 h15 tk15 ys2 k2 F15 N15 hD2 hpair2
                have htheirs := strs_mine hst hpair2
                dsimp only
                replace F15 : Fr g L h15 (BX [("theirs", .ref D2), ("mine", .ref D1)] ex) := fr_of F15 (B_cons' _ _ _ rfl)
                replace N15 : News g L h15 ((D2, lst ys2 k2) :: (D1, lst ys1 k1) :: (L + 4, o29) :: (J, rgI ((t : Int) + 1) ((j : Int) - (t : Int) - 1)) :: (L + 2, oo9) :: (I, rgI ((j : Int) + 1) (6 - (j : Int) - 1)) :: led0) := N15
                clear F14 N14 c3 c4 c2' lD li lt' N14' N13'
                walk_at "gok"
                rename_i E1 h16 F16 N16 l16
                refine ne_strsK (News.isList (items := ys1.toArray) N16 (.tail _ (.tail _ (.head _)))) hmine (News.isList (items := #[]) N16 (.head _)) .nil (ok_mine _ _ _) (by simp) ?units ?_
                case units => show un + 64 < cLine; omega
                have fin2 := fun (h : Heap) (tk' : Nat) (ex : List (Str × Value)) (F : Fr g L h (BX [] ex)) (N : News g L h ((L + 4, o29) :: (J, rgI ((t : Int) + 1) ((j : Int) - (t : Int) - 1)) :: (L + 2, oo9) :: (I, rgI ((j : Int) + 1) (6 - (j : Int) - 1)) :: led0)) (hb : bad ls j t = false) =>
                  IH2 (t + 1) { s₀ with heap := h, toks := tk' } (by omega) ⟨h, tk', o29, _, ex, rfl, F, by
                    rw [show ((t + 1 : Nat) : Int) = (t : Int) + 1 by omega, show (j : Int) - ((t : Int) + 1) = (j : Int) - (t : Int) - 1 by omega]
                    exact news_sub N (by intro p hp; simp only [List.mem_cons] at hp ⊢; rcases hp with h | h | h | h | h <;> simp [h]), d29, by omega, fun k hk => by
                    rcases Nat.lt_succ_iff_lt_or_eq.mp hk with h | h
                    · exact hg2 k h
                    · rw [h]; exact hb⟩
                clear IH2 IH
                walk_at "gok"
                · refine fin2 _ _ _ F16 (news_sub N16 fun p hp => .tail _ (.tail _ (.tail _ hp))) ?_
                  rename_i hq
                  unfold bad; rw [hq]; rfl
                · rename_i hq E2 h17 F17 N17 l17
                  refine ne_strsK (News.isList (items := ys2.toArray) N17 (.tail _ (.tail _ (.head _)))) htheirs (News.isList (items := #[]) N17 (.head _)) .nil (ok_mine _ _ _) (by simp) (show un + 64 < cLine by omega) ?_
                  walk_at "gok"
                  · refine fin2 _ _ _ F17 (news_sub N17 fun p hp => .tail _ (.tail _ (.tail _ (.tail _ hp)))) ?_
                    rename_i hq2
                    unfold bad; rw [hq2, Bool.not_true, Bool.and_false]
                  · rename_i hq2
                    refine ⟨_, _, _, rest, rfl, F17, news_sub N17 (fun p hp => .tail _ (.tail _ (.tail _ (.tail _ (.tail _ (.tail _ (.tail _ (.tail _ (mR p hp))))))))), rfl, _, rfl, ?_⟩
                    constructor
                    · intro h; cases h
                    · intro h
                      have := h j hlt t hlt2
                      unfold bad at this
                      rw [hq, hq2] at this
                      cases this
          · refine next_range_end rfl F N ?_ (by omega) ?_
            · intro p hp
              simp only [List.mem_cons] at hp
              rcases hp with h | h | h | h
              · rw [h]; exact Nat.ne_of_lt hJ4
              · rw [h]; exact Nat.ne_of_lt hJ2
              · rw [h]; exact Nat.ne_of_lt hJI
              · exact Nat.ne_of_lt (hJ0 p h)
            intro h14 F14 N14
            refine forStep_end ?_
            have htj : t = j := by omega
            subst htj
            clear IH2 F N
            walk_at "gok"
            refine IH (t + 1) _ (by omega) ⟨_, _, oo9, o2, _, _, ?_, rfl, fr_of F14 ?e2, ?n2, d9, d2, by omega, ?g⟩
            case e2 => walk_at "fx"
            case n2 => exact news_sub N14 (by intro p hp; simp only [List.mem_cons] at hp ⊢; rw [show ((t + 1 : Nat) : Int) = (t : Int) + 1 by omega, show 6 - ((t : Int) + 1) = 6 - (t : Int) - 1 by omega] at hp; rcases hp with h | h | h | h <;> simp [h])
            case g =>
              intro i hi k hk
              rcases Nat.lt_succ_iff_lt_or_eq.mp hi with h | h
              · exact hgood i h k hk
              · subst h; exact hg2 k hk
      · refine next_range_end rfl F N ?_ (by omega) ?_
        · intro p hp
          simp only [List.mem_cons] at hp
          rcases hp with h | h | h
          · rw [h]; exact Nat.ne_of_lt hI4
          · rw [h]; exact Nat.ne_of_lt hI2
          · exact Nat.ne_of_lt (hI0 p h)
        intro h8 F8 N8
        refine forStep_end ?_
        have : j = 6 := by omega
        subst this
        clear IH F N
        walk_at "gok"
        exact ⟨_, _, _, rest, rfl, F8, news_sub N8 (fun p hp => .tail _ (.tail _ (mR p hp))), rfl, _, rfl, by simpa using hgood⟩
end Mine
end
section
open PySem PySem.W PySem.Calls PyProof.Rows
namespace Mine
theorem pick_upto' {l : List Value} (k : Nat) : kms_pick l none (some (k : Int)) = l.take k := by
  unfold kms_pick kms_lo kms_hi
  simp only
  rw [if_neg (by omega), Int.toNat_natCast, List.drop_zero]
  by_cases h : k ≤ l.length
  · rw [Nat.min_eq_left h]; rfl
  · rw [Nat.min_eq_right (by omega), List.take_of_length_le (by omega), List.take_of_length_le (by omega)]
theorem pick_from' {l : List Value} (k : Nat) : kms_pick l (some (k : Int)) none = l.drop k := by
  unfold kms_pick kms_lo kms_hi
  simp only
  rw [if_neg (by omega), Int.toNat_natCast]
  by_cases h : k ≤ l.length
  · rw [Nat.min_eq_left h]; exact List.take_of_length_le (by rw [List.length_drop]; omega)
  · rw [Nat.min_eq_right (by omega), List.drop_eq_nil_of_le (by omega), List.drop_eq_nil_of_le (by omega)]; simp
end Mine
namespace Mine
theorem to_ds (l : List Int) : ∃ ds : List Nat, l.map (fun a => a.fmod 6) = nums ds ∧ (∀ d ∈ ds, d ≤ 5) ∧ ds.length = l.length := by
  refine ⟨l.map fun a => (a.fmod 6).toNat, ?_, ?_, by rw [List.length_map]⟩
  · unfold nums
    rw [List.map_map]
    refine List.map_congr_left fun a _ => ?_
    have h1 : 0 ≤ a.fmod 6 := Int.fmod_nonneg_of_pos a (by decide)
    exact (Int.toNat_of_nonneg h1).symm
  · intro d hd
    obtain ⟨a, _, rfl⟩ := List.mem_map.mp hd
    have h2 : a.fmod 6 < 6 := Int.fmod_lt_of_pos a (by decide)
    show (a.fmod 6).toNat ≤ 5
    omega
/-- draws, filled up -/
def fill (l d : List Nat) : List Nat := l ++ d.drop l.length
theorem fill_len {l d : List Nat} (h : l.length ≤ 6) (hd : d.length = 6) : (fill l d).length = 6 := by
  unfold fill; rw [List.length_append, List.length_drop]; omega
theorem fill_max {l d : List Nat} (h : ∀ x ∈ l, x ≤ 5) (hd : ∀ x ∈ d, x ≤ 5) : ∀ x ∈ fill l d, x ≤ 5 := by
  intro x hx
  rcases List.mem_append.mp hx with hx | hx
  · exact h x hx
  · exact hd x (List.mem_of_mem_drop hx)
theorem fill_nums (l d : List Nat) : nums l ++ (nums d).drop l.length = nums (fill l d) := by
  unfold fill nums
  rw [List.map_append, List.map_drop]
end Mine
end
section
namespace Mine
/-- all rising lists of n numbers from lo to 5 -/
def allS : Nat → Nat → (List Nat → Bool) → Bool
  | 0, _, f => f []
  | n + 1, lo, f => [0, 1, 2, 3, 4, 5].all fun x => Nat.blt x lo || allS n x fun l => f (x :: l)
theorem allS_spec : ∀ (n lo : Nat) (f : List Nat → Bool), allS n lo f = true → ∀ l : List Nat, l.length = n → l.Pairwise (fun a b => a ≤ b) → (∀ x ∈ l, lo ≤ x ∧ x ≤ 5) → f l = true
  | 0, lo, f, h, l, hl, _, _ => by
    have : l = [] := List.length_eq_zero_iff.mp hl
    subst this
    exact h
  | n + 1, lo, f, h, l, hl, hp, hb => by
    match l, hl with
    | x :: r, hl =>
      obtain ⟨hx, hr⟩ := List.pairwise_cons.mp hp
      have hxb := hb x (.head _)
      unfold allS at h
      have h1 := List.all_eq_true.mp h x (by
        have : x = 0 ∨ x = 1 ∨ x = 2 ∨ x = 3 ∨ x = 4 ∨ x = 5 := by omega
        simp [this])
      rw [Bool.or_eq_true] at h1
      rcases h1 with h1 | h1
      · rw [Nat.blt_eq] at h1; omega
      · exact allS_spec n x (fun l => f (x :: l)) h1 r (by simpa using hl) hr fun y hy => ⟨hx y hy, (hb y (.tail _ hy)).2⟩
def msum : Nat → List Nat → Nat
  | _, [] => 0
  | k, x :: r => (if Nat.ble x k then x else k) + msum k r
def lsum : List Nat → Nat
  | [] => 0
  | x :: r => x + lsum r
/-- Erdos and Gallai, at the first k of a falling list -/
def egK (fl : List Nat) (k : Nat) : Bool := Nat.ble (lsum (fl.take k)) (k * (k - 1) + msum k (fl.drop k))
/-- of a rising list -/
def egOk (v : List Nat) : Bool := Nat.beq (lsum v % 2) 0 && (egK v.reverse 1 && (egK v.reverse 2 && (egK v.reverse 3 && (egK v.reverse 4 && (egK v.reverse 5 && egK v.reverse 6)))))
def lbv (v : List Nat) (x : Nat) : Nat := (v.takeWhile fun y => Nat.blt y x).length
def vins (v : List Nat) (x : Nat) : List Nat := v.take (lbv v x) ++ x :: v.drop (lbv v x)
def zsv (v : List Nat) : Nat := (v.takeWhile fun y => Nat.beq y 0).length
def nearv (q : List Nat) (k : Nat) : Nat := if Nat.ble (zsv q) (q.length - k) then q.length - k else zsv q
def othv (v : List Nat) (i : Nat) : List Nat := (v.eraseIdx i).drop (nearv (v.eraseIdx i) (v.getD i 0))
def vstep (v : List Nat) (i : Nat) : List Nat := ((othv v i).map fun x => x - 1).foldl vins ((v.eraseIdx i).take (nearv (v.eraseIdx i) (v.getD i 0)))
def vleft (v : List Nat) (i : Nat) : Nat := v.getD i 0 - (othv v i).length
def chkI (v : List Nat) (i : Nat) : Bool := egOk v == (Nat.beq (vleft v i) 0 && egOk (vstep v i))
def chk (n : Nat) : Bool := allS n 0 fun v => (List.range n).all fun i => chkI v i
set_option maxRecDepth 100000
theorem chk1 : chk 1 = true := by decide +kernel
theorem chk2 : chk 2 = true := by decide +kernel
theorem chk3 : chk 3 = true := by decide +kernel
theorem chk4 : chk 4 = true := by decide +kernel
theorem chk5 : chk 5 = true := by decide +kernel
theorem chk6 : chk 6 = true := by decide +kernel
end Mine
end
section
namespace Mine
def allB (f : Bool → Bool) : Bool := f false && f true
theorem allB_spec {f : Bool → Bool} (h : allB f = true) (b : Bool) : f b = true := by
  unfold allB at h
  rw [Bool.and_eq_true] at h
  cases b
  · exact h.1
  · exact h.2
def b2n (b : Bool) : Nat := match b with
  | true => 1
  | false => 0
/-- the bound is reached at the first k, or the k-th is small -/
def tgK (fl : List Nat) (k : Nat) : Bool := Nat.beq (lsum (fl.take k)) (k * (k - 1) + msum k (fl.drop k)) || Nat.blt (fl.getD (k - 1) 0) (k - 1)
def tgOk (fl : List Nat) : Bool := tgK fl 1 && (tgK fl 2 && (tgK fl 3 && (tgK fl 4 && (tgK fl 5 && tgK fl 6))))
/-- four others: the one has x's, the other y's -/
def nb4 (x1 x2 x3 x4 y1 y2 y3 y4 : Bool) : Bool := !(((x1 && !y1) || (x2 && !y2) || (x3 && !y3) || (x4 && !y4)) && ((y1 && !x1) || (y2 && !x2) || (y3 && !x3) || (y4 && !x4)))
def nest15 (a01 a02 a03 a04 a05 a12 a13 a14 a15 a23 a24 a25 a34 a35 a45 : Bool) : Bool :=
  nb4 a02 a03 a04 a05 a12 a13 a14 a15 && (nb4 a01 a03 a04 a05 a12 a23 a24 a25 && (nb4 a01 a02 a04 a05 a13 a23 a34 a35 && (nb4 a01 a02 a03 a05 a14 a24 a34 a45 && (nb4 a01 a02 a03 a04 a15 a25 a35 a45 &&
  (nb4 a01 a13 a14 a15 a02 a23 a24 a25 && (nb4 a01 a12 a14 a15 a03 a23 a34 a35 && (nb4 a01 a12 a13 a15 a04 a24 a34 a45 && (nb4 a01 a12 a13 a14 a05 a25 a35 a45 &&
  (nb4 a02 a12 a24 a25 a03 a13 a34 a35 && (nb4 a02 a12 a23 a25 a04 a14 a34 a45 && (nb4 a02 a12 a23 a24 a05 a15 a35 a45 &&
  (nb4 a03 a13 a23 a35 a04 a14 a24 a45 && (nb4 a03 a13 a23 a34 a05 a15 a25 a45 && nb4 a04 a14 a24 a34 a05 a15 a25 a35)))))))))))))
def fin15 (d0 d1 d2 d3 d4 d5 : Nat) (a01 a02 a03 a04 a05 a12 a13 a14 a15 a23 a24 a25 a34 a35 a45 : Bool) : Bool :=
  (nest15 a01 a02 a03 a04 a05 a12 a13 a14 a15 a23 a24 a25 a34 a35 a45 == tgOk [d0, d1, d2, d3, d4, d5]) &&
  (!tgOk [d0, d1, d2, d3, d4, d5] || (a01 == Nat.blt 0 d1 && (a02 == Nat.blt 0 d2 && (a03 == Nat.blt 0 d3 && (a04 == Nat.blt 0 d4 && (a05 == Nat.blt 0 d5 &&
    (a12 == Nat.blt 1 d2 && (a13 == Nat.blt 1 d3 && (a14 == Nat.blt 1 d4 && (a15 == Nat.blt 1 d5 && (a23 == Nat.blt 2 d3 && (a24 == Nat.blt 2 d4 && (a25 == Nat.blt 2 d5 &&
    (a34 == Nat.blt 3 d4 && (a35 == Nat.blt 3 d5 && a45 == Nat.blt 4 d5)))))))))))))))
def su (a b c d e : Bool) : Nat := b2n a + b2n b + b2n c + b2n d + b2n e
def chkG : Bool :=
  allB fun a01 => allB fun a02 => allB fun a03 => allB fun a04 => allB fun a05 => allB fun a12 => allB fun a13 => allB fun a14 => allB fun a15 =>
    Nat.blt (su a01 a02 a03 a04 a05) (su a01 a12 a13 a14 a15) || allB fun a23 => allB fun a24 => allB fun a25 => Nat.blt (su a01 a12 a13 a14 a15) (su a02 a12 a23 a24 a25) || allB fun a34 => allB fun a35 =>
    Nat.blt (su a02 a12 a23 a24 a25) (su a03 a13 a23 a34 a35) || allB fun a45 => Nat.blt (su a03 a13 a23 a34 a35) (su a04 a14 a24 a34 a45) || (Nat.blt (su a04 a14 a24 a34 a45) (su a05 a15 a25 a35 a45) ||
    fin15 (su a01 a02 a03 a04 a05) (su a01 a12 a13 a14 a15) (su a02 a12 a23 a24 a25) (su a03 a13 a23 a34 a35) (su a04 a14 a24 a34 a45) (su a05 a15 a25 a35 a45) a01 a02 a03 a04 a05 a12 a13 a14 a15 a23 a24 a25 a34 a35 a45)
set_option maxRecDepth 100000
theorem chkG_ok : chkG = true := by decide +kernel
end Mine
end
section
open PySem PySem.W PyProof.Rows
namespace Mine
/-- how many links have this mark -/
def deg (L : List (Nat × Nat)) (c : Nat) : Nat := L.countP fun l => l.1 == c || l.2 == c
theorem deg_app (L M : List (Nat × Nat)) (c : Nat) : deg (L ++ M) c = deg L c + deg M c := List.countP_append
def lks (m : Nat) (oth : List (Nat × Nat)) : List (Nat × Nat) := oth.map fun o => (m, o.2)
theorem deg_self (m : Nat) (oth : List (Nat × Nat)) : deg (lks m oth) m = oth.length := by
  unfold deg lks
  rw [List.countP_map, List.countP_eq_length.mpr]
  intro a _
  simp
theorem deg_out {m c : Nat} {oth : List (Nat × Nat)} (hm : m ≠ c) (h : c ∉ oth.map (·.2)) : deg (lks m oth) c = 0 := by
  unfold deg lks
  rw [List.countP_map, List.countP_eq_zero]
  intro a ha
  have : a.2 ≠ c := fun e => h (List.mem_map.mpr ⟨a, ha, e⟩)
  simp [hm, this]
theorem deg_in {m c : Nat} : ∀ {oth : List (Nat × Nat)}, m ≠ c → (oth.map (·.2)).Nodup → c ∈ oth.map (·.2) → deg (lks m oth) c = 1
  | [], _, _, h => by simp at h
  | o :: r, hm, hn, h => by
    rw [List.map_cons, List.nodup_cons] at hn
    have e : deg (lks m (o :: r)) c = (if o.2 = c then 1 else 0) + deg (lks m r) c := by
      unfold deg lks
      rw [List.map_cons, List.countP_cons]
      simp [hm]
      omega
    rw [e]
    by_cases ho : o.2 = c
    · rw [if_pos ho, deg_out hm (ho ▸ hn.1)]
    · rw [if_neg ho, deg_in hm hn.2 (by
        rw [List.map_cons, List.mem_cons] at h
        rcases h with h | h
        · exact absurd h.symm ho
        · exact h)]
/-- what holds between the turns -/
structure Inv (ws : List Nat) (st : TSt) : Prop where
  srt : Srt st.1
  mks : ((st.1 ++ st.2.1).map (·.2)).Perm marks
  cons : ∀ p ∈ st.1 ++ st.2.1, (p.1 + deg st.2.2 p.2, p.2) ∈ ws.zip marks
  lnk : ∀ l ∈ st.2.2, l.1 ≠ l.2 ∧ l.1 ∈ st.2.1.map (·.2) ∧ l.2 ∈ marks
  nod : (st.2.2.map pairS).Nodup
  ll : st.2.2.length ≤ 5 * st.2.1.length
theorem pairS_inj {a b c d : Nat} (h : pairS (a, b) = pairS (c, d)) : (a = c ∧ b = d) ∨ (a = d ∧ b = c) := by
  unfold pairS at h
  dsimp only at h
  split at h <;> split at h <;> (simp at h; omega)
theorem marks_nodup : marks.Nodup := by decide
theorem step_perm {st : TSt} {i : Nat} {one : Nat × Nat} (hone : st.1[i]? = some one) (near : Nat) : st.1.Perm (one :: ((st.1.eraseIdx i).take near ++ (st.1.eraseIdx i).drop near)) := by
  rw [List.take_append_drop]
  have hi := (List.getElem?_eq_some_iff.mp hone).1
  have e : st.1 = st.1.take i ++ one :: st.1.drop (i + 1) := by
    have := List.take_append_drop i st.1
    rw [List.drop_eq_getElem_cons hi, (List.getElem?_eq_some_iff.mp hone).2] at this
    exact this.symm
  rw [List.eraseIdx_eq_take_drop_succ]
  conv => lhs; rw [e]
  exact List.perm_middle
theorem Inv.step {ws : List Nat} {st : TSt} (I : Inv ws st) {x : Nat} (hne : st.1 ≠ []) : Inv ws (tstep st x) := by
  have hlen : 0 < st.1.length := List.length_pos_iff.mpr hne
  have hi : x % st.1.length < st.1.length := Nat.mod_lt _ hlen
  obtain ⟨one, hone⟩ : ∃ one, st.1[x % st.1.length]? = some one := ⟨_, List.getElem?_eq_getElem hi⟩
  rw [tstep_eq rfl hone rfl rfl]
  generalize hq : st.1.eraseIdx (x % st.1.length) = q1
  have hP := step_perm hone (nearOf q1 one.1)
  rw [hq] at hP
  have hs1 : Srt q1 := hq ▸ I.srt.sublist (List.eraseIdx_sublist _ _)
  have hge : ∀ o ∈ q1.drop (nearOf q1 one.1), 1 ≤ o.1 := fun o ho => mem_drop_zs hs1 (Nat.le_max_left _ _) ho
  have hol1 : (q1.drop (nearOf q1 one.1)).length ≤ one.1 := by rw [List.length_drop]; unfold nearOf; omega
  have hq6 : st.1.length ≤ 6 := by
    have := I.mks.length_eq
    rw [List.length_map, List.length_append] at this
    have h6 : marks.length = 6 := rfl
    omega
  have hol5 : (q1.drop (nearOf q1 one.1)).length ≤ 5 := by
    have h1 : q1.length = st.1.length - 1 := by rw [← hq, List.length_eraseIdx_of_lt hi]
    rw [List.length_drop]; omega
  have hsk : Srt (q1.take (nearOf q1 one.1)) := hs1.sublist (List.take_sublist _ _)
  generalize q1.drop (nearOf q1 one.1) = oth at *
  generalize q1.take (nearOf q1 one.1) = keep at *
  obtain ⟨f1, _, f3⟩ := foldl_ins hsk (oth.map dec)
  generalize (oth.map dec).foldl ins keep = nq at *
  have hdec : (oth.map dec).map (·.2) = oth.map (·.2) := by rw [List.map_map]; rfl
  have hmk : ((one :: (keep ++ oth)) ++ st.2.1).map (·.2) |>.Perm marks := ((hP.append_right st.2.1).map (·.2)).symm.trans I.mks
  have hnd : (((one :: (keep ++ oth)) ++ st.2.1).map (·.2)).Nodup := hmk.nodup_iff.mpr marks_nodup
  simp only [List.map_append, List.map_cons, List.cons_append, List.nodup_cons, List.mem_append, not_or, List.nodup_append] at hnd
  obtain ⟨⟨⟨n1, n2⟩, n3⟩, ⟨n4, n5, n6⟩, n7, n8⟩ := hnd
  have hcons : ∀ p ∈ (one :: (keep ++ oth)) ++ st.2.1, (p.1 + deg st.2.2 p.2, p.2) ∈ ws.zip marks := fun p hp => I.cons p ((hP.append_right st.2.1).mem_iff.mpr hp)
  have hsub : ∀ p ∈ (one :: (keep ++ oth)) ++ st.2.1, p.2 ∈ marks := fun p hp => hmk.mem_iff.mp (List.mem_map.mpr ⟨p, hp, rfl⟩)
  show Inv ws (nq, st.2.1 ++ [(one.1 - oth.length, one.2)], st.2.2 ++ lks one.2 oth)
  refine ⟨f1, ?_, ?_, ?_, ?_, ?_⟩
  · refine List.Perm.trans ?_ hmk
    show ((nq ++ (st.2.1 ++ [(one.1 - oth.length, one.2)])).map (·.2)).Perm _
    have h1 := (f3.map (·.2))
    rw [List.map_append, hdec] at h1
    simp only [List.map_append, List.map_cons, List.map_nil]
    rw [List.perm_iff_count]
    intro c
    have h2 := h1.count_eq c
    rw [List.count_append] at h2
    simp only [List.count_append, List.count_cons, List.count_nil, List.cons_append, h2]
    omega
  · intro p hp
    dsimp only at hp ⊢
    rw [deg_app]
    simp only [List.mem_append, List.mem_singleton] at hp
    rcases hp with hp | hp | hp
    · rcases List.mem_append.mp (f3.mem_iff.mp hp) with hp | hp
      · obtain ⟨o, ho, rfl⟩ := List.mem_map.mp hp
        have h1 := hcons o (by simp [ho])
        have hm : o.2 ∈ oth.map (·.2) := List.mem_map.mpr ⟨o, ho, rfl⟩
        rw [show (dec o).2 = o.2 from rfl, deg_in (fun e : one.2 = o.2 => n2 (e ▸ hm)) n5 hm]
        have := hge o ho
        rw [show (dec o).1 + (deg st.2.2 o.2 + 1) = o.1 + deg st.2.2 o.2 by show o.1 - 1 + _ = _; omega]
        exact h1
      · have h1 := hcons p (by simp [hp])
        have hm : p.2 ∈ keep.map (·.2) := List.mem_map.mpr ⟨p, hp, rfl⟩
        rw [deg_out (fun e : one.2 = p.2 => n1 (e ▸ hm)) (fun h => n6 _ hm _ h rfl)]
        exact h1
    · have h1 := hcons p (by simp [hp])
      have hm : p.2 ∈ st.2.1.map (·.2) := List.mem_map.mpr ⟨p, hp, rfl⟩
      rw [deg_out (fun e : one.2 = p.2 => n3 (e ▸ hm)) (fun h => n8 _ (.inr h) _ hm rfl)]
      exact h1
    · subst hp
      have h1 := hcons one (by simp)
      dsimp only
      rw [deg_self, show one.1 - oth.length + (deg st.2.2 one.2 + oth.length) = one.1 + deg st.2.2 one.2 by omega]
      exact h1
  · intro l hl
    dsimp only at hl ⊢
    rcases List.mem_append.mp hl with hl | hl
    · obtain ⟨a, b, c⟩ := I.lnk l hl
      exact ⟨a, by rw [List.map_append]; exact List.mem_append_left _ b, c⟩
    · obtain ⟨o, ho, rfl⟩ := List.mem_map.mp hl
      have hm : o.2 ∈ oth.map (·.2) := List.mem_map.mpr ⟨o, ho, rfl⟩
      exact ⟨fun e => n2 (by rw [show one.2 = o.2 from e]; exact hm), by simp, hsub o (by simp [ho])⟩
  · dsimp only
    rw [List.map_append, List.nodup_append]
    refine ⟨I.nod, ?_, ?_⟩
    · unfold lks
      rw [List.map_map]
      have e : oth.map (pairS ∘ fun o => (one.2, o.2)) = (oth.map (·.2)).map fun c => pairS (one.2, c) := by rw [List.map_map]; rfl
      rw [e]
      refine List.pairwise_map.mpr (n5.imp fun {a b} h q => ?_)
      rcases pairS_inj q with q | q
      · exact h q.2
      · exact h (q.2.trans q.1)
    · intro a ha b hb e
      obtain ⟨l, hl, rfl⟩ := List.mem_map.mp ha
      obtain ⟨k, hk, rfl⟩ := List.mem_map.mp hb
      obtain ⟨o, ho, rfl⟩ := List.mem_map.mp hk
      obtain ⟨h1, h2, h3⟩ := I.lnk l hl
      have hm : o.2 ∈ oth.map (·.2) := List.mem_map.mpr ⟨o, ho, rfl⟩
      rcases pairS_inj (a := l.1) (b := l.2) (c := one.2) (d := o.2) e with h | h
      · exact n3 (h.1 ▸ h2)
      · exact n8 _ (.inr hm) _ h2 h.1.symm
  · dsimp only
    unfold lks
    have := I.ll
    rw [List.length_append, List.length_append, List.length_map]
    simp
    omega
end Mine
end
section
open PySem PySem.W PyProof.Rows
namespace Mine
theorem Inv.start {ws : List Nat} (h : ws.length = 6) : Inv ws (qOf (ws.zip marks), [], []) := by
  obtain ⟨f1, f2, f3⟩ := foldl_ins (q := []) .nil (ws.zip marks)
  rw [List.append_nil] at f3
  refine ⟨f1, ?_, ?_, fun l hl => (nomatch hl), .nil, Nat.zero_le _⟩
  · dsimp only
    rw [List.append_nil]
    refine (f3.map (·.2)).trans ?_
    rw [List.map_snd_zip (by rw [h]; decide)]
  · intro p hp
    dsimp only at hp ⊢
    rw [List.append_nil] at hp
    exact f3.mem_iff.mp hp
theorem Inv.len {ws : List Nat} {st : TSt} (I : Inv ws st) : st.1.length + st.2.1.length = 6 := by
  have := I.mks.length_eq
  rw [List.length_map, List.length_append] at this
  exact this
theorem tstep_served (st : TSt) (x : Nat) : (tstep st x).2.1.length = st.2.1.length + 1 := by simp [tstep]
theorem Inv.run {ws : List Nat} : ∀ (ts : List Nat) {st : TSt}, Inv ws st → st.1.length = ts.length → Inv ws (ts.foldl tstep st) ∧ (ts.foldl tstep st).1 = []
  | [], st, I, h => ⟨I, List.length_eq_zero_iff.mp h⟩
  | t :: r, st, I, h => by
    have I' := I.step (x := t) (fun e => by rw [e] at h; cases h)
    refine Inv.run r I' ?_
    have h1 := I'.len
    have h2 := I.len
    rw [tstep_served] at h1
    rw [List.length_cons] at h
    omega
/-- the values alone -/
abbrev vals (q : List (Nat × Nat)) : List Nat := q.map (·.1)
theorem tw_map {α β : Type} (f : α → β) (p : β → Bool) : ∀ l : List α, ((l.map f).takeWhile p).length = (l.takeWhile fun a => p (f a)).length
  | [] => rfl
  | a :: r => by
    rw [List.map_cons, List.takeWhile_cons, List.takeWhile_cons]
    cases p (f a) with
    | true => simp [tw_map f p r]
    | false => rfl
theorem lbv_eq (q : List (Nat × Nat)) (x : Nat) : lbv (vals q) x = lbd q x := by
  unfold lbv lbd
  rw [tw_map]
  congr 2
  funext p
  by_cases h : p.1 < x
  · rw [decide_eq_true h]; exact Nat.blt_eq.mpr h
  · rw [decide_eq_false h]; exact Bool.eq_false_iff.mpr fun e => h (Nat.blt_eq.mp e)
theorem ins_vals (q : List (Nat × Nat)) (p : Nat × Nat) : vals (ins q p) = vins (vals q) p.1 := by
  unfold ins vins
  rw [lbv_eq, vals, List.map_append, List.map_cons, List.map_take, List.map_drop]
theorem foldl_vals : ∀ (L q : List (Nat × Nat)), vals (L.foldl ins q) = (vals L).foldl vins (vals q)
  | [], q => rfl
  | p :: r, q => by rw [List.foldl_cons, foldl_vals r, ins_vals]; rfl
theorem zsv_eq (q : List (Nat × Nat)) : zsv (vals q) = zs q := by
  unfold zsv zs
  rw [tw_map]
  congr 2
  funext p
  by_cases h : p.1 = 0
  · rw [decide_eq_true h, h]; rfl
  · rw [decide_eq_false h]; exact Bool.eq_false_iff.mpr fun e => h (Nat.beq_eq.mp e)
theorem nearv_eq (q : List (Nat × Nat)) (k : Nat) : nearv (vals q) k = nearOf q k := by
  unfold nearv nearOf
  rw [zsv_eq, List.length_map]
  cases h : Nat.ble (zs q) (q.length - k) with
  | true => have := Nat.le_of_ble_eq_true h; rw [if_pos rfl, Nat.max_eq_right this]
  | false =>
    have : ¬ zs q ≤ q.length - k := fun e => by rw [Nat.ble_eq_true_of_le e] at h; cases h
    rw [if_neg (by decide), Nat.max_eq_left (by omega)]
theorem erase_vals (q : List (Nat × Nat)) (i : Nat) : vals (q.eraseIdx i) = (vals q).eraseIdx i := by
  rw [vals, List.eraseIdx_eq_take_drop_succ, List.eraseIdx_eq_take_drop_succ, List.map_append, List.map_take, List.map_drop]
theorem oth_vals (q : List (Nat × Nat)) (i : Nat) {one : Nat × Nat} (h : q[i]? = some one) : othv (vals q) i = vals ((q.eraseIdx i).drop (nearOf (q.eraseIdx i) one.1)) := by
  have e : (vals q).getD i 0 = one.1 := by simp [List.getD, h]
  unfold othv
  rw [e, ← erase_vals, nearv_eq, vals, vals, List.map_drop]
theorem step_vals {st : TSt} {x : Nat} {one : Nat × Nat} (h : st.1[x % st.1.length]? = some one) :
    vals (tstep st x).1 = vstep (vals st.1) (x % st.1.length) ∧ (tstep st x).2.1 = st.2.1 ++ [(vleft (vals st.1) (x % st.1.length), one.2)] := by
  rw [tstep_eq rfl h rfl rfl]
  have e : (vals st.1).getD (x % st.1.length) 0 = one.1 := by simp [List.getD, h]
  constructor
  · unfold vstep
    rw [oth_vals _ _ h, foldl_vals, e, ← erase_vals, nearv_eq]
    congr 1
    · rw [vals, List.map_take]
    · rw [vals, vals, List.map_map, List.map_map]; rfl
  · unfold vleft
    rw [oth_vals _ _ h, e, vals, List.length_map]
theorem chk_all {n : Nat} (h1 : 1 ≤ n) (h6 : n ≤ 6) : chk n = true := by
  have : n = 1 ∨ n = 2 ∨ n = 3 ∨ n = 4 ∨ n = 5 ∨ n = 6 := by omega
  rcases this with rfl | rfl | rfl | rfl | rfl | rfl
  · exact chk1
  · exact chk2
  · exact chk3
  · exact chk4
  · exact chk5
  · exact chk6
theorem eg_step {v : List Nat} {i : Nat} (h6 : v.length ≤ 6) (hs : v.Pairwise fun a b => a ≤ b) (h5 : ∀ x ∈ v, x ≤ 5) (hi : i < v.length) : egOk v = (Nat.beq (vleft v i) 0 && egOk (vstep v i)) := by
  have h := allS_spec v.length 0 _ (chk_all (by omega) h6) v rfl hs fun x hx => ⟨Nat.zero_le _, h5 x hx⟩
  have h2 := List.all_eq_true.mp h i (List.mem_range.mpr hi)
  exact eq_of_beq h2
theorem run_zero : ∀ (ts : List Nat) {st : TSt}, QOk st.1 ts.length → ts.length ≤ 6 → ((∀ p ∈ (ts.foldl tstep st).2.1, p.1 = 0) ↔ (∀ p ∈ st.2.1, p.1 = 0) ∧ egOk (vals st.1) = true)
  | [], st, hQ, _ => by
    have : st.1 = [] := List.length_eq_zero_iff.mp hQ.len
    rw [this]
    exact ⟨fun h => ⟨h, by decide⟩, fun h => h.1⟩
  | t :: r, st, hQ, h6 => by
    rw [List.length_cons] at hQ h6
    have hi : t % st.1.length < st.1.length := Nat.mod_lt _ (by rw [hQ.len]; omega)
    obtain ⟨one, hone⟩ : ∃ one, st.1[t % st.1.length]? = some one := ⟨_, List.getElem?_eq_getElem hi⟩
    obtain ⟨e1, e2⟩ := step_vals hone
    have hQ' : QOk (tstep st t).1 r.length := by
      rw [tstep_eq rfl hone rfl rfl]
      exact new_ok (hQ.erase (by rw [← hQ.len]; exact hi)) (by omega) nearOf_le rfl
    rw [List.foldl_cons, run_zero r hQ' (by omega), e1, e2]
    rw [eg_step (v := vals st.1) (i := t % st.1.length) (by rw [List.length_map, hQ.len]; exact h6) (by rw [vals, List.pairwise_map]; exact hQ.srt) (fun x hx => by obtain ⟨p, hp, rfl⟩ := List.mem_map.mp hx; exact hQ.max p hp) (by rw [List.length_map]; exact hi)]
    rw [Bool.and_eq_true]
    constructor
    · rintro ⟨h1, h2⟩
      refine ⟨fun p hp => h1 p (List.mem_append_left _ hp), ?_, h2⟩
      exact Nat.beq_eq.mpr (h1 _ (List.mem_append_right _ (.head _)))
    · rintro ⟨h1, h2, h3⟩
      refine ⟨fun p hp => ?_, h3⟩
      rcases List.mem_append.mp hp with hp | hp
      · exact h1 p hp
      · simp only [List.mem_singleton] at hp
        rw [hp]; exact Nat.beq_eq.mp h2
end Mine
end
section
open PySem PySem.W PyProof.Rows
namespace Mine
theorem sum_nums : ∀ l : List Nat, (nums l).sum = ((lsum l : Nat) : Int)
  | [] => rfl
  | x :: r => by
    have := sum_nums r
    unfold nums at this ⊢
    rw [List.map_cons, List.sum_cons, this, lsum]
    omega
theorem sum_min (k : Nat) : ∀ l : List Nat, ((nums l).map fun x => if (k : Int) < x then (k : Int) else x).sum = ((msum k l : Nat) : Int)
  | [] => rfl
  | x :: r => by
    have := sum_min k r
    unfold nums at this ⊢
    rw [List.map_cons, List.map_cons, List.sum_cons, this, msum]
    cases h : Nat.ble x k with
    | true => have := Nat.le_of_ble_eq_true h; rw [if_neg (by omega), if_pos rfl]; omega
    | false =>
      have : ¬ x ≤ k := fun e => by rw [Nat.ble_eq_true_of_le e] at h; cases h
      rw [if_pos (by omega), if_neg (by decide)]; omega
theorem asked_nums (fl : List Nat) (k : Nat) : asked (nums fl) k = ((lsum (fl.take k) : Nat) : Int) := by
  unfold asked
  rw [← sum_nums]
  unfold nums
  rw [List.map_take]
theorem most_nums (fl : List Nat) (j : Nat) : most (nums fl) (j + 1) = (((j + 1) * (j + 1 - 1) + msum (j + 1) (fl.drop (j + 1)) : Nat) : Int) := by
  unfold most
  have e : (nums fl).drop (j + 1) = nums (fl.drop (j + 1)) := by unfold nums; rw [List.map_drop]
  have h1 : ((j + 1 : Nat) : Int) * (((j + 1 : Nat) : Int) - 1) = (((j + 1) * j : Nat) : Int) := by
    rw [Int.natCast_mul, show (((j + 1 : Nat) : Int) - 1) = (j : Int) by omega]
  rw [e, sum_min, Nat.add_sub_cancel, h1]
  exact (Int.natCast_add _ _).symm
theorem eg_j (fl : List Nat) (j : Nat) : decide (asked (nums fl) (j + 1) ≤ most (nums fl) (j + 1)) = egK fl (j + 1) := by
  rw [asked_nums, most_nums]
  unfold egK
  by_cases h : lsum (fl.take (j + 1)) ≤ (j + 1) * (j + 1 - 1) + msum (j + 1) (fl.drop (j + 1))
  · rw [Nat.ble_eq_true_of_le h]; exact decide_eq_true (by omega)
  · rw [Bool.eq_false_iff.mpr fun e => h (Nat.le_of_ble_eq_true e)]; exact decide_eq_false (by omega)
theorem tg_j (fl : List Nat) (j : Nat) : (decide (asked (nums fl) (j + 1) = most (nums fl) (j + 1)) || decide ((nums fl).getD j 0 < (j : Int))) = tgK fl (j + 1) := by
  rw [asked_nums, most_nums]
  unfold tgK
  have e : (nums fl).getD j 0 = ((fl.getD j 0 : Nat) : Int) := by
    unfold nums
    simp only [List.getD, List.getElem?_map]
    cases fl[j]? <;> rfl
  rw [e, Nat.add_sub_cancel]
  congr 1
  · by_cases h : lsum (fl.take (j + 1)) = (j + 1) * j + msum (j + 1) (fl.drop (j + 1))
    · rw [Nat.beq_eq.mpr h]; exact decide_eq_true (by omega)
    · rw [Bool.eq_false_iff.mpr fun e => h (Nat.beq_eq.mp e)]; exact decide_eq_false (by omega)
  · by_cases h : fl.getD j 0 < j
    · rw [Nat.blt_eq.mpr h]; exact decide_eq_true (by omega)
    · rw [Bool.eq_false_iff.mpr fun e => h (Nat.blt_eq.mp e)]; exact decide_eq_false (by omega)
theorem even_nums (n : Nat) : ((n : Int).fmod 2 == 0) = Nat.beq (n % 2) 0 := by
  have h : (n : Int).fmod 2 = ((n % 2 : Nat) : Int) := by rw [Int.fmod_eq_emod_of_nonneg _ (by decide)]; rfl
  rw [h]
  have : n % 2 = 0 ∨ n % 2 = 1 := by omega
  rcases this with h | h <;> rw [h] <;> rfl
theorem fair_eq {v : List Nat} {sm : Int} (hs : sm = ((lsum v : Nat) : Int)) : fairB (nums v.reverse) sm 6 = egOk v := by
  simp only [fairB, eg_j, hs, even_nums, egOk, Bool.and_assoc]
theorem tight_eq (fl : List Nat) : tightB (nums fl) 6 = tgOk fl := by
  simp only [tightB, tg_j, tgOk, Bool.and_assoc, Bool.true_and]
theorem lsum_perm {a b : List Nat} (h : a.Perm b) : lsum a = lsum b := by
  induction h with
  | nil => rfl
  | cons x _ ih => rw [lsum, lsum, ih]
  | swap x y l => simp only [lsum]; omega
  | trans _ _ h1 h2 => exact h1.trans h2
/-- the queue's values, from the smallest on -/
def qv (ws : List Nat) : List Nat := vals (qOf (ws.zip marks))
theorem qv_perm {ws : List Nat} (h : ws.length = 6) : (qv ws).Perm ws := by
  obtain ⟨f1, f2, f3⟩ := foldl_ins (q := []) .nil (ws.zip marks)
  rw [List.append_nil] at f3
  refine (f3.map (·.1)).trans ?_
  rw [List.map_fst_zip (by rw [h]; decide)]
theorem qv_srt {ws : List Nat} : (qv ws).Pairwise fun a b => a ≤ b := by
  obtain ⟨f1, f2, f3⟩ := foldl_ins (q := []) .nil (ws.zip marks)
  unfold qv vals
  rw [List.pairwise_map]
  exact f1
theorem ns_eq {ws : List Nat} {ns : List Int} (h : ws.length = 6) (hp : ns.Perm (nums ws)) (hs : ns.Pairwise fun a b => a ≤ b) : ns = nums (qv ws) := by
  have h1 : (nums (qv ws)).Pairwise fun a b : Int => a ≤ b := by
    unfold nums
    rw [List.pairwise_map]
    exact qv_srt.imp fun h => by omega
  have h2 : ns.Perm (nums (qv ws)) := hp.trans ((qv_perm h).map _).symm
  exact h2.eq_of_pairwise (fun a b _ _ h1 h2 => by omega) hs h1
theorem fair_qv {ws : List Nat} {ns : List Int} (h : ws.length = 6) (hp : ns.Perm (nums ws)) (hs : ns.Pairwise fun a b => a ≤ b) : fairB ns.reverse (nums ws).sum 6 = egOk (qv ws) := by
  rw [ns_eq h hp hs, show (nums (qv ws)).reverse = nums (qv ws).reverse by unfold nums; rw [List.map_reverse]]
  exact fair_eq (by rw [sum_nums, lsum_perm (qv_perm h)])
theorem tight_qv {ws : List Nat} {ns : List Int} (h : ws.length = 6) (hp : ns.Perm (nums ws)) (hs : ns.Pairwise fun a b => a ≤ b) : tightB ns.reverse 6 = tgOk (qv ws).reverse := by
  rw [ns_eq h hp hs, show (nums (qv ws)).reverse = nums (qv ws).reverse by unfold nums; rw [List.map_reverse]]
  exact tight_eq _
theorem fin_zero {ws ts : List Nat} (hw : ws.length = 6) (hm : ∀ x ∈ ws, x ≤ 5) (ht : ts.length = 6) : (∀ p ∈ (fin ws ts).2.1, p.1 = 0) ↔ egOk (qv ws) = true := by
  have hQ : QOk (qOf (ws.zip marks)) ts.length := by rw [ht]; exact QOk.qOf hw hm
  have := run_zero ts (st := (qOf (ws.zip marks), [], [])) hQ (by omega)
  unfold fin qv
  rw [this]
  exact ⟨fun h => h.2, fun h => ⟨fun p hp => (nomatch hp), h⟩⟩
end Mine
end
section
open PySem PySem.W PyProof.Rows
namespace Mine
def mailRow (p : Nat × Nat) : Str := ⟨(List.replicate p.1 32 ++ [46, p.2, 10]).toArray⟩
def mailT (sp : List (Nat × Nat)) : Str := Txt.join (Str.ofString "") (sp.map mailRow)
def dueT (ws : List Nat) (ls : List Str) : Str := Txt.join (Str.ofString "") ((ws.zip marks).map (dueRow ls))
/-- what one time of _law_links hands back -/
structure Book (ws ts : List Nat) (sp : List (Nat × Nat)) (ls : List Str) : Prop where
  wl : ws.length = 6
  wm : ∀ x ∈ ws, x ≤ 5
  tl : ts.length = 6
  sp1 : sp.Perm (fin ws ts).2.1
  sp2 : sp.Pairwise fun a b => a.2 ≤ b.2
  ls1 : ls.Perm ((fin ws ts).2.2.map pairS)
  ls2 : sortedS ls = true
section
variable {ws ts ts' : List Nat} {sp sp' : List (Nat × Nat)} {ls ls' : List Str} {ns : List Int}
theorem Book.inv (b : Book ws ts sp ls) : Inv ws (fin ws ts) ∧ (fin ws ts).1 = [] := by
  have I := Inv.start b.wl
  refine Inv.run ts I ?_
  have := I.len
  rw [b.tl]
  exact this
/-- the links, as pairs of marks -/
abbrev lnks (ws ts : List Nat) : List (Nat × Nat) := (fin ws ts).2.2
theorem Book.sp_marks (b : Book ws ts sp ls) : sp.map (·.2) = marks := by
  obtain ⟨I, e⟩ := b.inv
  have h1 := I.mks
  rw [e, List.nil_append] at h1
  refine ((b.sp1.map (·.2)).trans h1).eq_of_pairwise (fun a b _ _ h1 h2 => Nat.le_antisymm h1 h2) ?_ (by decide)
  rw [List.pairwise_map]
  exact b.sp2
theorem marks_inj : ∀ i, i < 6 → ∀ j, j < 6 → marks.getD i 0 = marks.getD j 0 → i = j := by decide
theorem Book.sp_at (b : Book ws ts sp ls) {i : Nat} (hi : i < 6) : ∃ k, sp[i]? = some (k, marks.getD i 0) ∧ ws[i]? = some (k + deg (lnks ws ts) (marks.getD i 0)) := by
  obtain ⟨I, e⟩ := b.inv
  have hm := b.sp_marks
  have hsl : sp.length = 6 := by
    have := congrArg List.length hm
    rw [List.length_map] at this
    exact this
  have hp : sp[i]? = some (sp[i]'(by omega)) := List.getElem?_eq_getElem (by omega)
  generalize sp[i]'(by omega) = p at hp
  have h2 : p.2 = marks.getD i 0 := by
    have h1 : (sp.map (·.2))[i]? = some p.2 := by rw [List.getElem?_map, hp]; rfl
    rw [hm, marks_get hi] at h1
    exact (Option.some.inj h1).symm
  have hc := I.cons p (by
    rw [e, List.nil_append]
    exact b.sp1.mem_iff.mp (List.mem_of_getElem? hp))
  obtain ⟨j, hj⟩ := List.getElem?_of_mem hc
  rw [List.getElem?_zip_eq_some] at hj
  have hj6 : j < 6 := by
    have := (List.getElem?_eq_some_iff.mp hj.1).1
    have := b.wl
    omega
  have hij : j = i := marks_inj j hj6 i hi (by
    have := hj.2
    rw [marks_get hj6] at this
    rw [← h2]
    exact Option.some.inj this)
  subst hij
  refine ⟨p.1, by rw [hp, ← h2], ?_⟩
  rw [← h2]
  exact hj.1
theorem m_spl (b : Book ws ts sp ls) : sp.length = 6 := by
  have := congrArg List.length b.sp_marks
  rw [List.length_map] at this
  exact this
theorem m_rows (b : Book ws ts sp ls) : ∀ p ∈ sp, p.1 ≤ 5 := by
  intro p hp
  obtain ⟨i, hi⟩ := List.getElem?_of_mem hp
  have hi6 : i < 6 := by have := (List.getElem?_eq_some_iff.mp hi).1; have := m_spl b; omega
  obtain ⟨k, h1, h2⟩ := b.sp_at hi6
  rw [hi] at h1
  cases h1
  have := b.wm _ (List.mem_of_getElem? h2)
  show k ≤ 5
  omega
theorem m_ll (b : Book ws ts sp ls) : ls.length ≤ 30 := by
  obtain ⟨I, e⟩ := b.inv
  have h1 := I.ll
  have h2 := I.len
  rw [e] at h2
  have h3 := b.ls1.length_eq
  rw [List.length_map] at h3
  simp at h2
  omega
theorem lnk_marks (b : Book ws ts sp ls) : ∀ l ∈ lnks ws ts, l.1 ≠ l.2 ∧ l.1 ∈ marks ∧ l.2 ∈ marks := by
  obtain ⟨I, e⟩ := b.inv
  intro l hl
  obtain ⟨h1, h2, h3⟩ := I.lnk l hl
  refine ⟨h1, ?_, h3⟩
  have := I.mks
  rw [e, List.nil_append] at this
  exact this.mem_iff.mp h2
theorem contains_pair : ∀ a ∈ marks, ∀ b ∈ marks, ∀ c ∈ marks, Txt.contains (pairS (a, b)) ⟨#[c]⟩ = (a == c || b == c) := by decide +kernel
theorem deg_ls (b : Book ws ts sp ls) {c : Nat} (hc : c ∈ marks) : (ls.filter fun l => Txt.contains l ⟨#[c]⟩).length = deg (lnks ws ts) c := by
  rw [(b.ls1.filter _).length_eq, ← List.countP_eq_length_filter, List.countP_map]
  unfold deg
  refine List.countP_congr fun l hl => ?_
  obtain ⟨_, h1, h2⟩ := lnk_marks b l hl
  show Txt.contains (pairS (l.1, l.2)) ⟨#[c]⟩ = true ↔ _
  rw [contains_pair _ h1 _ h2 _ hc]
theorem zip_at (b : Book ws ts sp ls) {z : Nat × Nat} (hz : z ∈ ws.zip marks) : ∃ i, i < 6 ∧ ws[i]? = some z.1 ∧ z.2 = marks.getD i 0 := by
  obtain ⟨i, hi⟩ := List.getElem?_of_mem hz
  rw [List.getElem?_zip_eq_some] at hi
  have hi6 : i < 6 := by
    have := (List.getElem?_eq_some_iff.mp hi.1).1
    have := b.wl
    omega
  refine ⟨i, hi6, hi.1, ?_⟩
  have := hi.2
  rw [marks_get hi6] at this
  exact (Option.some.inj this).symm
theorem m_deg (b : Book ws ts sp ls) : ∀ z ∈ ws.zip marks, (ls.filter fun l => Txt.contains l ⟨#[z.2]⟩).length ≤ z.1 := by
  intro z hz
  rw [deg_ls b (List.of_mem_zip (show (z.1, z.2) ∈ _ from hz)).2]
  obtain ⟨i, hi, h1, h2⟩ := zip_at b hz
  obtain ⟨k, h3, h4⟩ := b.sp_at hi
  rw [h1] at h4
  have := Option.some.inj h4
  rw [h2]
  omega
/-- a served row as it is due -/
def dRow (p : Nat × Nat) : Str := ⟨((if p.1 = 0 then [46, 46] else List.replicate p.1 32 ++ [46]) ++ [p.2, 13, 10]).toArray⟩
theorem due_rows (b : Book ws ts sp ls) : (ws.zip marks).map (dueRow ls) = sp.map dRow := by
  apply List.ext_getElem?
  intro i
  by_cases hi : i < 6
  · obtain ⟨k, h1, h2⟩ := b.sp_at hi
    have hz : (ws.zip marks)[i]? = some (k + deg (lnks ws ts) (marks.getD i 0), marks.getD i 0) := by
      rw [List.getElem?_zip_eq_some]; exact ⟨h2, marks_get hi⟩
    rw [List.getElem?_map, List.getElem?_map, hz, h1]
    have hl : lack ls (k + deg (lnks ws ts) (marks.getD i 0), marks.getD i 0) = k := by
      unfold lack
      dsimp only
      rw [deg_ls b (List.mem_of_getElem? (marks_get hi))]
      omega
    show some _ = some _
    unfold dueRow dRow
    rw [hl]
  · rw [List.getElem?_eq_none (by rw [List.length_map, List.length_zip, b.wl]; show min 6 6 ≤ i; omega), List.getElem?_eq_none (by rw [List.length_map, m_spl b]; omega)]
end
end Mine
end
section
open PySem PySem.W PyProof.Rows
namespace Mine
theorem join_cps : ∀ ss : List Str, (Str.join (Str.ofString "") ss).cps.toList = ss.flatMap fun s => s.cps.toList
  | [] => rfl
  | [x] => by simp [Str.join]
  | x :: y :: r => by
    have h : (Str.ofString "").cps = #[] := by decide +kernel
    have ih := join_cps (y :: r)
    show ((x ++ Str.ofString "") ++ Str.join (Str.ofString "") (y :: r)).cps.toList = _
    rw [Str.cps_append, Str.cps_append, Array.toList_append, Array.toList_append, ih, h, List.flatMap_cons (x := x)]
    simp
theorem tjoin_cps (ss : List Str) : (Txt.join (Str.ofString "") ss).cps.toList = ss.flatMap fun s => s.cps.toList := by
  unfold Txt.join
  rw [StrLaws.glued_eq_join]
  exact join_cps ss
def mrow (p : Nat × Nat) : List Nat := List.replicate p.1 32 ++ [46, p.2, 10]
def crow (p : Nat × Nat) : List Nat := List.replicate p.1 32 ++ [46, p.2, 13, 10]
def drow (p : Nat × Nat) : List Nat := (if p.1 = 0 then [46, 46] else List.replicate p.1 32 ++ [46]) ++ [p.2, 13, 10]
theorem mail_cps (sp : List (Nat × Nat)) : (mailT sp).cps.toList = sp.flatMap mrow := by
  unfold mailT
  rw [tjoin_cps, List.flatMap_map]
  rfl
theorem drows_cps (sp : List (Nat × Nat)) : (Txt.join (Str.ofString "") (sp.map dRow)).cps.toList = sp.flatMap drow := by
  rw [tjoin_cps, List.flatMap_map]
  rfl
theorem range_getD (L : List Nat) : (List.range L.length).map (fun k => L.getD k 0) = L := by
  apply List.ext_getElem
  · simp
  · intro i h1 h2
    simp [List.getD, h2]
theorem arr_getD (A : Array Nat) (k : Nat) : A.getD k 0 = A.toList.getD k 0 := by
  rw [Array.getD_eq_getD_getElem?, List.getD_eq_getElem?_getD, Array.getElem?_toList]
theorem upTo_crlf (A : Array Nat) : upTo (fun r => A.getD r 0 == 10) [13, 10] A.toList A.size = A.toList.flatMap fun c => if (c == 10) = true then [13, 10] else [c] := by
  unfold upTo
  conv => rhs; rw [← range_getD A.toList]
  rw [List.flatMap_map, Array.length_toList]
  congr 1
  funext k
  show (if (A.getD k 0 == 10) = true then [13, 10] else [A.toList.getD k 0]) = _
  rw [arr_getD]
def hh (p c : Nat) : List Nat := if (p == 10 && c == 46) = true then [46, 46] else [c]
def gg : Nat → List Nat → List Nat
  | _, [] => []
  | p, c :: r => hh p c ++ gg c r
theorem gg_zip : ∀ (p : Nat) (L : List Nat), (List.zip (p :: L) L).flatMap (fun z => hh z.1 z.2) = gg p L
  | p, [] => rfl
  | p, c :: r => by rw [List.zip_cons_cons, List.flatMap_cons, gg_zip c r]; rfl
theorem upTo_dots (A : Array Nat) : upTo (at1 A) [46, 46] A.toList A.size = gg 10 A.toList := by
  rw [← gg_zip]
  have e : (List.range A.toList.length).map (fun k => ((10 :: A.toList).getD k 0, A.toList.getD k 0)) = List.zip (10 :: A.toList) A.toList := by
    apply List.ext_getElem
    · simp
    · intro i h1 h2
      have hi : i < A.toList.length := by simpa using h1
      rw [List.getElem_map, List.getElem_range, List.getElem_zip]
      congr 1
      · rw [List.getD_eq_getElem?_getD, List.getElem?_eq_getElem (by rw [List.length_cons]; omega)]; rfl
      · rw [List.getD_eq_getElem?_getD, List.getElem?_eq_getElem hi]; rfl
  rw [← e, List.flatMap_map, Array.length_toList]
  unfold upTo
  congr 1
  funext k
  unfold at1 hh
  rw [arr_getD, arr_getD]
  cases k with
  | zero =>
    dsimp only
    rw [show ((0 : Nat) == 0) = true from rfl, Bool.true_or, show (List.getD (10 :: A.toList) 0 0 == 10) = true from rfl]
  | succ k =>
    rw [show (k + 1 == 0) = false from rfl, Bool.false_or, Nat.add_sub_cancel, show List.getD (10 :: A.toList) (k + 1) 0 = List.getD A.toList k 0 by simp [List.getD]]
theorem crlf_row {p : Nat × Nat} (h : p.2 ≠ 10) : (mrow p).flatMap (fun c => if (c == 10) = true then [13, 10] else [c]) = crow p := by
  unfold mrow crow
  have : ∀ k : Nat, (List.replicate k 32).flatMap (fun c => if (c == 10) = true then [13, 10] else [c]) = List.replicate k 32 := by
    intro k
    induction k with
    | zero => rfl
    | succ k ih => rw [List.replicate_succ, List.flatMap_cons, ih]; rfl
  rw [List.flatMap_append, this]
  simp [h]
theorem gg_blank : ∀ (k : Nat) (r : List Nat), gg 32 (List.replicate k 32 ++ 46 :: r) = List.replicate k 32 ++ 46 :: gg 46 r
  | 0, r => rfl
  | k + 1, r => by rw [List.replicate_succ, List.cons_append, gg, gg_blank k r]; rfl
theorem gg_row (p : Nat × Nat) (r : List Nat) : gg 10 (crow p ++ r) = drow p ++ gg 10 r := by
  obtain ⟨k, c⟩ := p
  have h46 : ∀ r', gg 46 (c :: 13 :: 10 :: r') = c :: 13 :: 10 :: gg 10 r' := by
    intro r'
    simp [gg, hh]
  unfold crow drow
  dsimp only
  rw [List.append_assoc]
  show gg 10 (List.replicate k 32 ++ 46 :: c :: 13 :: 10 :: r) = _
  cases k with
  | zero =>
    rw [if_pos rfl]
    show hh 10 46 ++ gg 46 (c :: 13 :: 10 :: r) = _
    rw [h46]
    rfl
  | succ k =>
    rw [if_neg (by omega), List.replicate_succ, List.cons_append]
    show hh 10 32 ++ gg 32 (List.replicate k 32 ++ 46 :: c :: 13 :: 10 :: r) = _
    rw [gg_blank, h46]
    simp [hh]
theorem gg_rows : ∀ sp : List (Nat × Nat), gg 10 (sp.flatMap crow) = sp.flatMap drow
  | [] => rfl
  | p :: r => by rw [List.flatMap_cons, gg_row, gg_rows r, List.flatMap_cons]
theorem crlf_rows : ∀ sp : List (Nat × Nat), (∀ p ∈ sp, p.2 ≠ 10) → (sp.flatMap mrow).flatMap (fun c => if (c == 10) = true then [13, 10] else [c]) = sp.flatMap crow
  | [], _ => rfl
  | p :: r, h => by rw [List.flatMap_cons, List.flatMap_append, crlf_row (h p (.head _)), crlf_rows r fun q hq => h q (.tail _ hq), List.flatMap_cons]
section
variable {ws ts ts' : List Nat} {sp sp' : List (Nat × Nat)} {ls ls' : List Str} {ns : List Int}
theorem sp_mark (b : Book ws ts sp ls) : ∀ p ∈ sp, p.2 ∈ marks := by
  intro p hp
  rw [← b.sp_marks]
  exact List.mem_map.mpr ⟨p, hp, rfl⟩
theorem m_sent (b : Book ws ts sp ls) {y z : Str} (hy : y.cps.toList = upTo (fun r => (mailT sp).cps.getD r 0 == 10) [13, 10] (mailT sp).cps.toList (mailT sp).cps.size) (hz : z.cps.toList = upTo (at1 y.cps) [46, 46] y.cps.toList y.cps.size) :
    z = dueT ws ls := by
  rw [upTo_crlf, mail_cps, crlf_rows sp (fun p hp e => by
    have h1 := sp_mark b p hp
    rw [e] at h1
    exact absurd h1 (by decide))] at hy
  rw [upTo_dots, hy, gg_rows, ← drows_cps, ← due_rows b] at hz
  apply Str.ext'
  apply Array.ext'
  exact hz
theorem len_rows_m : ∀ sp : List (Nat × Nat), (sp.flatMap drow).length = (sp.flatMap mrow).length + sp.length + sp.countP fun p => p.1 == 0
  | [] => rfl
  | p :: r => by
    have ih := len_rows_m r
    rw [List.flatMap_cons, List.flatMap_cons, List.length_append, List.length_append, List.length_cons, List.countP_cons, ih]
    unfold drow mrow
    by_cases h : p.1 = 0
    · rw [if_pos h]; simp [h]; omega
    · rw [if_neg h]; simp [h]; omega
theorem len_mail : ∀ sp : List (Nat × Nat), (∀ p ∈ sp, p.1 ≤ 5) → (sp.flatMap mrow).length ≤ 8 * sp.length
  | [], _ => Nat.le_refl _
  | p :: r, h => by
    have ih := len_mail r fun q hq => h q (.tail _ hq)
    have := h p (.head _)
    rw [List.flatMap_cons, List.length_append, List.length_cons]
    unfold mrow at *
    simp only [List.length_append, List.length_replicate, List.length_cons, List.length_nil]
    omega
theorem str_len (x : Str) : x.length = x.cps.toList.length := rfl
theorem m_len (b : Book ws ts sp ls) : (mailT sp).cps.size ≤ 100 := by
  rw [← Array.length_toList, mail_cps]
  have := len_mail sp (m_rows b)
  have := m_spl b
  omega
theorem due_len (b : Book ws ts sp ls) : (dueT ws ls).length = (mailT sp).length + 6 + sp.countP fun p => p.1 == 0 := by
  unfold dueT
  rw [due_rows b, str_len, str_len, drows_cps, mail_cps, len_rows_m, m_spl b]
theorem m_small (b : Book ws ts sp ls) : (dueT ws ls).length ≤ 100 := by
  rw [due_len b]
  have h1 : (mailT sp).length ≤ 48 := by
    rw [str_len, mail_cps]
    have := len_mail sp (m_rows b)
    have := m_spl b
    omega
  have h2 := List.countP_le_length (p := fun p : Nat × Nat => p.1 == 0) (l := sp)
  have := m_spl b
  omega
theorem m_no13 (b : Book ws ts sp ls) : ∀ r, r < (mailT sp).cps.size → (mailT sp).cps.getD r 0 ≠ 13 := by
  intro r hr e
  have h1 : 13 ∈ (mailT sp).cps.toList := by
    rw [arr_getD, List.getD_eq_getElem?_getD, List.getElem?_eq_getElem (by rw [Array.length_toList]; exact hr)] at e
    rw [← e]
    exact List.getElem_mem _
  rw [mail_cps, List.mem_flatMap] at h1
  obtain ⟨p, hp, h⟩ := h1
  have hm := sp_mark b p hp
  unfold mrow at h
  rcases List.mem_append.mp h with h | h
  · have := List.eq_of_mem_replicate h; omega
  · simp at h
    rw [← h] at hm
    exact absurd hm (by decide)
theorem m_count (b : Book ws ts sp ls) (hp : ns.Perm (nums ws)) (hs : ns.Pairwise fun a b => a ≤ b) : decide ((dueT ws ls).length = (mailT sp).length + 12) = fairB ns.reverse (nums ws).sum 6 := by
  rw [fair_qv b.wl hp hs, due_len b]
  have h1 := fin_zero b.wl b.wm b.tl
  have h2 : (∀ p ∈ (fin ws ts).2.1, p.1 = 0) ↔ ∀ p ∈ sp, p.1 = 0 := ⟨fun h p hq => h p (b.sp1.mem_iff.mp hq), fun h p hq => h p (b.sp1.mem_iff.mpr hq)⟩
  have h3 : (sp.countP (fun p => p.1 == 0) = sp.length) ↔ ∀ p ∈ sp, p.1 = 0 := by
    rw [List.countP_eq_length]
    exact ⟨fun h p hq => eq_of_beq (h p hq), fun h p hq => beq_iff_eq.mpr (h p hq)⟩
  have h4 := m_spl b
  cases he : egOk (qv ws) with
  | true =>
    have := h3.mpr (h2.mp (h1.mpr he))
    exact decide_eq_true (by omega)
  | false =>
    refine decide_eq_false fun h => ?_
    have := h1.mp (h2.mpr (h3.mp (by omega)))
    rw [he] at this
    cases this
end
end Mine
end
section
open PySem PySem.W PyProof.Rows
namespace Mine
theorem le_of_sorted : ∀ (x : Str) (r : List Str), risingS x r = true → (x :: r).Pairwise fun a b => a.cps.toList ≤ b.cps.toList
  | x, [], _ => List.pairwise_cons.mpr ⟨fun a ha => (nomatch ha), .nil⟩
  | x, y :: r, h => by
    unfold risingS at h
    rw [Bool.and_eq_true] at h
    have ih := le_of_sorted y r h.2
    have hxy : x.cps.toList ≤ y.cps.toList := by
      have := h.1
      rw [ltCps_eq, Bool.not_eq_true', decide_eq_false_iff_not] at this
      exact List.not_lt.mp this
    refine List.pairwise_cons.mpr ⟨fun a ha => ?_, ih⟩
    rcases List.mem_cons.mp ha with rfl | ha
    · exact hxy
    · exact List.le_trans hxy ((List.pairwise_cons.mp ih).1 a ha)
theorem sorted_pw {l : List Str} (h : sortedS l = true) : l.Pairwise fun a b => a.cps.toList ≤ b.cps.toList := by
  cases l with
  | nil => exact .nil
  | cons x r => exact le_of_sorted x r h
theorem sorted_eq {a b : List Str} (ha : sortedS a = true) (hb : sortedS b = true) (h : a.Perm b) : a = b := by
  refine h.eq_of_pairwise (fun x y _ _ h1 h2 => ?_) (sorted_pw ha) (sorted_pw hb)
  apply Str.ext'
  apply Array.ext'
  exact List.le_antisymm h1 h2
theorem pairS_comm (a b : Nat) : pairS (a, b) = pairS (b, a) := by
  unfold pairS
  dsimp only
  by_cases h : a = b
  · rw [h]
  · by_cases h2 : a ≤ b
    · rw [if_pos h2, if_neg (by omega)]
    · rw [if_neg h2, if_pos (by omega)]
section
variable {ws ts ts' : List Nat} {sp sp' : List (Nat × Nat)} {ls ls' : List Str} {ns : List Int}
theorem ok_pairs : ∀ a ∈ marks, ∀ b ∈ marks, PyData.strOk (pairS (a, b)) = true := by decide +kernel
theorem ls_mem (b : Book ws ts sp ls) {x : Str} : x ∈ ls ↔ ∃ l ∈ lnks ws ts, pairS l = x := by
  rw [b.ls1.mem_iff, List.mem_map]
theorem m_ok (b : Book ws ts sp ls) : ∀ x ∈ ls, PyData.strOk x = true := by
  intro x hx
  obtain ⟨l, hl, rfl⟩ := (ls_mem b).mp hx
  obtain ⟨_, h1, h2⟩ := lnk_marks b l hl
  exact ok_pairs l.1 h1 l.2 h2
theorem adj_iff (b : Book ws ts sp ls) {c d : Nat} : adj ls c d = true ↔ (c, d) ∈ lnks ws ts ∨ (d, c) ∈ lnks ws ts := by
  unfold adj
  rw [List.any_eq_true]
  constructor
  · rintro ⟨x, hx, e⟩
    obtain ⟨l, hl, rfl⟩ := (ls_mem b).mp hx
    have e := eq_of_beq e
    obtain ⟨p, q⟩ := l
    rcases pairS_inj e with h | h
    · rw [h.1, h.2] at hl; exact .inl hl
    · rw [h.1, h.2] at hl; exact .inr hl
  · rintro (h | h)
    · exact ⟨_, (ls_mem b).mpr ⟨_, h, rfl⟩, beq_self_eq_true _⟩
    · exact ⟨_, (ls_mem b).mpr ⟨_, h, rfl⟩, by rw [pairS_comm]; exact beq_self_eq_true _⟩
theorem adj_comm (ls : List Str) (c d : Nat) : adj ls c d = adj ls d c := by
  unfold adj
  rw [pairS_comm]
theorem adj_self (b : Book ws ts sp ls) (c : Nat) : adj ls c c = false := by
  rw [Bool.eq_false_iff]
  intro h
  rcases (adj_iff b).mp h with h | h <;> exact (lnk_marks b _ h).1 rfl
/-- the other end -/
def oe (c : Nat) (l : Nat × Nat) : Nat := if l.1 = c then l.2 else l.1
theorem deg_adj (b : Book ws ts sp ls) (c : Nat) : deg (lnks ws ts) c = marks.countP (adj ls c) := by
  have hN := b.inv.1.nod
  have h1 : (((lnks ws ts).filter fun l => l.1 == c || l.2 == c).map (oe c)).Nodup := by
    unfold List.Nodup
    rw [List.pairwise_map]
    have hP : (lnks ws ts).Pairwise fun a b => pairS a ≠ pairS b := List.pairwise_map.mp hN
    refine List.Pairwise.imp_of_mem (fun {x y} hx hy h e => h ?_) (hP.sublist List.filter_sublist)
    have hx2 := (List.mem_filter.mp hx).2
    have hy2 := (List.mem_filter.mp hy).2
    obtain ⟨x1, x2⟩ := x
    obtain ⟨y1, y2⟩ := y
    simp only [Bool.or_eq_true, beq_iff_eq] at hx2 hy2
    unfold oe at e
    dsimp only at e
    by_cases a1 : x1 = c
    · rw [if_pos a1] at e
      by_cases a2 : y1 = c
      · rw [if_pos a2] at e; rw [a1, a2, e]
      · rw [if_neg a2] at e
        have : y2 = c := by omega
        rw [a1, this, e, pairS_comm]
    · rw [if_neg a1] at e
      have hx3 : x2 = c := by omega
      by_cases a2 : y1 = c
      · rw [if_pos a2] at e; rw [hx3, a2, e, pairS_comm]
      · rw [if_neg a2] at e
        have : y2 = c := by omega
        rw [hx3, this, e]
  have h2 : (marks.filter (adj ls c)).Nodup := marks_nodup.sublist List.filter_sublist
  have h3 : (((lnks ws ts).filter fun l => l.1 == c || l.2 == c).map (oe c)).Perm (marks.filter (adj ls c)) := by
    rw [List.perm_ext_iff_of_nodup h1 h2]
    intro d
    rw [List.mem_map, List.mem_filter]
    constructor
    · rintro ⟨l, hl, rfl⟩
      obtain ⟨hl, hc⟩ := List.mem_filter.mp hl
      obtain ⟨k1, k2, k3⟩ := lnk_marks b l hl
      obtain ⟨x, y⟩ := l
      simp only [Bool.or_eq_true, beq_iff_eq] at hc
      unfold oe
      dsimp only at k1 k2 k3 hc ⊢
      by_cases a : x = c
      · rw [if_pos a]
        exact ⟨k3, (adj_iff b).mpr (.inl (a ▸ hl))⟩
      · rw [if_neg a]
        have : y = c := by omega
        exact ⟨k2, (adj_iff b).mpr (.inr (this ▸ hl))⟩
    · rintro ⟨hd, ha⟩
      rcases (adj_iff b).mp ha with h | h
      · exact ⟨(c, d), List.mem_filter.mpr ⟨h, by simp⟩, by simp [oe]⟩
      · have := (lnk_marks b _ h).1
        exact ⟨(d, c), List.mem_filter.mpr ⟨h, by simp⟩, by unfold oe; rw [if_neg this]⟩
  have h4 := h3.length_eq
  rw [List.length_map, ← List.countP_eq_length_filter, ← List.countP_eq_length_filter] at h4
  exact h4
/-- one of two has a friend that the other lacks, each -/
def badM (ms : List Nat) (A : Nat → Nat → Bool) (a b : Nat) : Bool := ms.any (fun x => A a x && (x != b && !A b x)) && ms.any fun x => A b x && (x != a && !A a x)
theorem any_mine (ls : List Str) (a b : Nat) : (!decide (mineL ls a b = [])) = marks.any fun x => adj ls a x && (x != b && !adj ls b x) := by
  have hT : ∀ x ∈ marks, mineT ls b (sgl x) = (x != b && !adj ls b x) := by
    intro x hx
    unfold mineT frd
    have e1 : (sgl x == sgl b) = (x == b) := by
      by_cases h : x = b
      · rw [h, beq_self_eq_true, beq_self_eq_true]
      · have h2 : sgl x ≠ sgl b := fun e => h (by simpa [sgl] using e)
        rw [beq_eq_false_iff_ne.mpr h, beq_eq_false_iff_ne.mpr h2]
    have e2 : ((marks.filter (adj ls b)).map sgl).any (· == sgl x) = adj ls b x := by
      rw [Bool.eq_iff_iff, List.any_eq_true]
      constructor
      · rintro ⟨y, hy, e⟩
        obtain ⟨z, hz, rfl⟩ := List.mem_map.mp hy
        have : z = x := by simpa [sgl] using eq_of_beq e
        exact this ▸ (List.mem_filter.mp hz).2
      · intro h
        exact ⟨sgl x, List.mem_map.mpr ⟨x, List.mem_filter.mpr ⟨hx, h⟩, rfl⟩, beq_self_eq_true _⟩
    rw [e1, e2]
    rfl
  rw [Bool.eq_iff_iff, List.any_eq_true, Bool.not_eq_true', decide_eq_false_iff_not]
  constructor
  · intro h
    obtain ⟨l, hl⟩ := List.exists_mem_of_ne_nil _ h
    obtain ⟨h1, h2⟩ := List.mem_filter.mp hl
    obtain ⟨x, hx, rfl⟩ := List.mem_map.mp h1
    obtain ⟨h3, h4⟩ := List.mem_filter.mp hx
    exact ⟨x, h3, by rw [h4, Bool.true_and, ← hT x h3]; exact h2⟩
  · rintro ⟨x, hx, h⟩ e
    rw [Bool.and_eq_true] at h
    have : sgl x ∈ mineL ls a b := List.mem_filter.mpr ⟨List.mem_map.mpr ⟨x, List.mem_filter.mpr ⟨hx, h.1⟩, rfl⟩, by rw [hT x hx]; exact h.2⟩
    rw [e] at this
    cases this
theorem bad_eq (ls : List Str) (i k : Nat) : bad ls i k = badM marks (adj ls) (marks.getD i 0) (marks.getD k 0) := by
  unfold bad badM
  rw [any_mine, any_mine]
theorem all_pw (ls : List Str) : (∀ i, i < 6 → ∀ k, k < i → bad ls i k = false) ↔ marks.Pairwise fun a b => badM marks (adj ls) b a = false := by
  rw [List.pairwise_iff_getElem]
  constructor
  · intro h i j hi hj hij
    have := h j hj i hij
    rw [bad_eq] at this
    have e1 : marks.getD j 0 = marks[j] := by simp [List.getD, hj]
    have e2 : marks.getD i 0 = marks[i] := by simp [List.getD, hi]
    rw [e1, e2] at this
    exact this
  · intro h i hi k hk
    have hk6 : k < marks.length := Nat.lt_trans hk hi
    have := h k i hk6 hi hk
    have e1 : marks.getD i 0 = marks[i]'hi := by rw [List.getD_eq_getElem?_getD, List.getElem?_eq_getElem (show i < marks.length from hi)]; rfl
    have e2 : marks.getD k 0 = marks[k] := by simp [List.getD, hk6]
    rw [bad_eq, e1, e2]
    exact this
theorem badM_perm {ms ns : List Nat} (h : ms.Perm ns) (A : Nat → Nat → Bool) (a b : Nat) : badM ms A a b = badM ns A a b := by
  unfold badM
  rw [h.any_eq, h.any_eq]
theorem badM_comm (ms : List Nat) (A : Nat → Nat → Bool) (a b : Nat) : badM ms A a b = badM ms A b a := by
  unfold badM
  rw [Bool.and_comm]
theorem pw_perm {ms : List Nat} (h : ms.Perm marks) (A : Nat → Nat → Bool) : (marks.Pairwise fun a b => badM marks A b a = false) ↔ ms.Pairwise fun a b => badM ms A b a = false := by
  have e : (fun a b => badM ms A b a = false) = fun a b => badM marks A b a = false := by
    funext a b
    rw [badM_perm h]
  rw [e]
  exact h.symm.pairwise_iff fun {x y} q => by rw [badM_comm]; exact q
end
end Mine
end
section
open PySem PySem.W PyProof.Rows
set_option maxRecDepth 100000
namespace Mine
theorem ite_b2n (x : Bool) : (if x = true then 1 else 0) = b2n x := by cases x <;> rfl
theorem or_r {x y : Nat} {c : Bool} (h : (Nat.blt x y || c) = true) (hle : y ≤ x) : c = true := by
  rw [Bool.or_eq_true] at h
  rcases h with h | h
  · rw [Nat.blt_eq] at h; omega
  · exact h
section
variable {A : Nat → Nat → Bool} (hc : ∀ a b, A a b = A b a) (hs : ∀ a, A a a = false) {d0 d1 d2 d3 d4 d5 m0 m1 m2 m3 m4 m5 : Nat}
include hc hs
theorem core15 (h01 : d1 ≤ d0) (h12 : d2 ≤ d1) (h23 : d3 ≤ d2) (h34 : d4 ≤ d3) (h45 : d5 ≤ d4)
    (e0 : d0 = [m0, m1, m2, m3, m4, m5].countP (A m0)) (e1 : d1 = [m0, m1, m2, m3, m4, m5].countP (A m1)) (e2 : d2 = [m0, m1, m2, m3, m4, m5].countP (A m2))
    (e3 : d3 = [m0, m1, m2, m3, m4, m5].countP (A m3)) (e4 : d4 = [m0, m1, m2, m3, m4, m5].countP (A m4)) (e5 : d5 = [m0, m1, m2, m3, m4, m5].countP (A m5)) :
    fin15 d0 d1 d2 d3 d4 d5 (A m0 m1) (A m0 m2) (A m0 m3) (A m0 m4) (A m0 m5) (A m1 m2) (A m1 m3) (A m1 m4) (A m1 m5) (A m2 m3) (A m2 m4) (A m2 m5) (A m3 m4) (A m3 m5) (A m4 m5) = true := by
  simp only [List.countP_cons, List.countP_nil, hs, ite_b2n] at e0 e1 e2 e3 e4 e5
  rw [hc m1 m0] at e1
  rw [hc m2 m0, hc m2 m1] at e2
  rw [hc m3 m0, hc m3 m1, hc m3 m2] at e3
  rw [hc m4 m0, hc m4 m1, hc m4 m2, hc m4 m3] at e4
  rw [hc m5 m0, hc m5 m1, hc m5 m2, hc m5 m3, hc m5 m4] at e5
  generalize A m0 m1 = a01 at *
  generalize A m0 m2 = a02 at *
  generalize A m0 m3 = a03 at *
  generalize A m0 m4 = a04 at *
  generalize A m0 m5 = a05 at *
  generalize A m1 m2 = a12 at *
  generalize A m1 m3 = a13 at *
  generalize A m1 m4 = a14 at *
  generalize A m1 m5 = a15 at *
  generalize A m2 m3 = a23 at *
  generalize A m2 m4 = a24 at *
  generalize A m2 m5 = a25 at *
  generalize A m3 m4 = a34 at *
  generalize A m3 m5 = a35 at *
  generalize A m4 m5 = a45 at *
  have b0 : b2n false = 0 := rfl
  rw [b0] at e0 e1 e2 e3 e4 e5
  have s0 : d0 = su a01 a02 a03 a04 a05 := by unfold su; omega
  have s1 : d1 = su a01 a12 a13 a14 a15 := by unfold su; omega
  have s2 : d2 = su a02 a12 a23 a24 a25 := by unfold su; omega
  have s3 : d3 = su a03 a13 a23 a34 a35 := by unfold su; omega
  have s4 : d4 = su a04 a14 a24 a34 a45 := by unfold su; omega
  have s5 : d5 = su a05 a15 a25 a35 a45 := by unfold su; omega
  clear e0 e1 e2 e3 e4 e5 b0 hc hs
  subst s0 s1 s2 s3 s4 s5
  have h := chkG_ok
  unfold chkG at h
  have h := or_r (allB_spec (allB_spec (allB_spec (allB_spec (allB_spec (allB_spec (allB_spec (allB_spec (allB_spec h a01) a02) a03) a04) a05) a12) a13) a14) a15) h01
  have h := or_r (allB_spec (allB_spec (allB_spec h a23) a24) a25) h12
  have h := or_r (allB_spec (allB_spec h a34) a35) h23
  have h := or_r (allB_spec h a45) h34
  exact or_r h h45
omit hc in
theorem bad4 {ms : List Nat} {a b x1 x2 x3 x4 : Nat} (hp : ms.Perm [a, b, x1, x2, x3, x4]) (hn : [a, b, x1, x2, x3, x4].Nodup) :
    badM ms A a b = !nb4 (A a x1) (A a x2) (A a x3) (A a x4) (A b x1) (A b x2) (A b x3) (A b x4) := by
  rw [badM_perm hp]
  simp only [List.nodup_cons, List.mem_cons, not_or, List.not_mem_nil, not_false_eq_true, and_true] at hn
  obtain ⟨⟨n1, n2, n3, n4, n5⟩, ⟨n6, n7, n8, n9⟩, _⟩ := hn
  have k1 : (x1 != a) = true := bne_iff_ne.mpr (Ne.symm n2)
  have k2 : (x2 != a) = true := bne_iff_ne.mpr (Ne.symm n3)
  have k3 : (x3 != a) = true := bne_iff_ne.mpr (Ne.symm n4)
  have k4 : (x4 != a) = true := bne_iff_ne.mpr (Ne.symm n5)
  have k5 : (x1 != b) = true := bne_iff_ne.mpr (Ne.symm n6)
  have k6 : (x2 != b) = true := bne_iff_ne.mpr (Ne.symm n7)
  have k7 : (x3 != b) = true := bne_iff_ne.mpr (Ne.symm n8)
  have k8 : (x4 != b) = true := bne_iff_ne.mpr (Ne.symm n9)
  unfold badM nb4
  simp only [List.any_cons, List.any_nil, hs, k1, k2, k3, k4, k5, k6, k7, k8, bne_self_eq_false, Bool.false_and, Bool.and_false, Bool.true_and, Bool.false_or, Bool.or_false, Bool.not_not, Bool.or_assoc]
omit hc hs in
theorem perm6 {l k : List Nat} (h : ∀ c, l.count c = k.count c) : l.Perm k := List.perm_iff_count.mpr h
theorem nest_pw (hn : [m0, m1, m2, m3, m4, m5].Nodup) : ([m0, m1, m2, m3, m4, m5].Pairwise fun a b => badM [m0, m1, m2, m3, m4, m5] A b a = false) ↔
    nest15 (A m0 m1) (A m0 m2) (A m0 m3) (A m0 m4) (A m0 m5) (A m1 m2) (A m1 m3) (A m1 m4) (A m1 m5) (A m2 m3) (A m2 m4) (A m2 m5) (A m3 m4) (A m3 m5) (A m4 m5) = true := by
  have p01 : badM [m0, m1, m2, m3, m4, m5] A m1 m0 = !nb4 (A m0 m2) (A m0 m3) (A m0 m4) (A m0 m5) (A m1 m2) (A m1 m3) (A m1 m4) (A m1 m5) := by
    rw [badM_comm, bad4 hs (a := m0) (b := m1) (x1 := m2) (x2 := m3) (x3 := m4) (x4 := m5) (perm6 (by intro c; simp only [List.count_cons, List.count_nil] <;> omega)) ((perm6 (by intro c; simp only [List.count_cons, List.count_nil] <;> omega)).nodup_iff.mp hn)]
  have p02 : badM [m0, m1, m2, m3, m4, m5] A m2 m0 = !nb4 (A m0 m1) (A m0 m3) (A m0 m4) (A m0 m5) (A m1 m2) (A m2 m3) (A m2 m4) (A m2 m5) := by
    rw [badM_comm, bad4 hs (a := m0) (b := m2) (x1 := m1) (x2 := m3) (x3 := m4) (x4 := m5) (perm6 (by intro c; simp only [List.count_cons, List.count_nil] <;> omega)) ((perm6 (by intro c; simp only [List.count_cons, List.count_nil] <;> omega)).nodup_iff.mp hn)]
    rw [hc m2 m1]
  have p03 : badM [m0, m1, m2, m3, m4, m5] A m3 m0 = !nb4 (A m0 m1) (A m0 m2) (A m0 m4) (A m0 m5) (A m1 m3) (A m2 m3) (A m3 m4) (A m3 m5) := by
    rw [badM_comm, bad4 hs (a := m0) (b := m3) (x1 := m1) (x2 := m2) (x3 := m4) (x4 := m5) (perm6 (by intro c; simp only [List.count_cons, List.count_nil] <;> omega)) ((perm6 (by intro c; simp only [List.count_cons, List.count_nil] <;> omega)).nodup_iff.mp hn)]
    rw [hc m3 m1, hc m3 m2]
  have p04 : badM [m0, m1, m2, m3, m4, m5] A m4 m0 = !nb4 (A m0 m1) (A m0 m2) (A m0 m3) (A m0 m5) (A m1 m4) (A m2 m4) (A m3 m4) (A m4 m5) := by
    rw [badM_comm, bad4 hs (a := m0) (b := m4) (x1 := m1) (x2 := m2) (x3 := m3) (x4 := m5) (perm6 (by intro c; simp only [List.count_cons, List.count_nil] <;> omega)) ((perm6 (by intro c; simp only [List.count_cons, List.count_nil] <;> omega)).nodup_iff.mp hn)]
    rw [hc m4 m1, hc m4 m2, hc m4 m3]
  have p05 : badM [m0, m1, m2, m3, m4, m5] A m5 m0 = !nb4 (A m0 m1) (A m0 m2) (A m0 m3) (A m0 m4) (A m1 m5) (A m2 m5) (A m3 m5) (A m4 m5) := by
    rw [badM_comm, bad4 hs (a := m0) (b := m5) (x1 := m1) (x2 := m2) (x3 := m3) (x4 := m4) (perm6 (by intro c; simp only [List.count_cons, List.count_nil] <;> omega)) ((perm6 (by intro c; simp only [List.count_cons, List.count_nil] <;> omega)).nodup_iff.mp hn)]
    rw [hc m5 m1, hc m5 m2, hc m5 m3, hc m5 m4]
  have p12 : badM [m0, m1, m2, m3, m4, m5] A m2 m1 = !nb4 (A m0 m1) (A m1 m3) (A m1 m4) (A m1 m5) (A m0 m2) (A m2 m3) (A m2 m4) (A m2 m5) := by
    rw [badM_comm, bad4 hs (a := m1) (b := m2) (x1 := m0) (x2 := m3) (x3 := m4) (x4 := m5) (perm6 (by intro c; simp only [List.count_cons, List.count_nil] <;> omega)) ((perm6 (by intro c; simp only [List.count_cons, List.count_nil] <;> omega)).nodup_iff.mp hn)]
    rw [hc m1 m0, hc m2 m0]
  have p13 : badM [m0, m1, m2, m3, m4, m5] A m3 m1 = !nb4 (A m0 m1) (A m1 m2) (A m1 m4) (A m1 m5) (A m0 m3) (A m2 m3) (A m3 m4) (A m3 m5) := by
    rw [badM_comm, bad4 hs (a := m1) (b := m3) (x1 := m0) (x2 := m2) (x3 := m4) (x4 := m5) (perm6 (by intro c; simp only [List.count_cons, List.count_nil] <;> omega)) ((perm6 (by intro c; simp only [List.count_cons, List.count_nil] <;> omega)).nodup_iff.mp hn)]
    rw [hc m1 m0, hc m3 m0, hc m3 m2]
  have p14 : badM [m0, m1, m2, m3, m4, m5] A m4 m1 = !nb4 (A m0 m1) (A m1 m2) (A m1 m3) (A m1 m5) (A m0 m4) (A m2 m4) (A m3 m4) (A m4 m5) := by
    rw [badM_comm, bad4 hs (a := m1) (b := m4) (x1 := m0) (x2 := m2) (x3 := m3) (x4 := m5) (perm6 (by intro c; simp only [List.count_cons, List.count_nil] <;> omega)) ((perm6 (by intro c; simp only [List.count_cons, List.count_nil] <;> omega)).nodup_iff.mp hn)]
    rw [hc m1 m0, hc m4 m0, hc m4 m2, hc m4 m3]
  have p15 : badM [m0, m1, m2, m3, m4, m5] A m5 m1 = !nb4 (A m0 m1) (A m1 m2) (A m1 m3) (A m1 m4) (A m0 m5) (A m2 m5) (A m3 m5) (A m4 m5) := by
    rw [badM_comm, bad4 hs (a := m1) (b := m5) (x1 := m0) (x2 := m2) (x3 := m3) (x4 := m4) (perm6 (by intro c; simp only [List.count_cons, List.count_nil] <;> omega)) ((perm6 (by intro c; simp only [List.count_cons, List.count_nil] <;> omega)).nodup_iff.mp hn)]
    rw [hc m1 m0, hc m5 m0, hc m5 m2, hc m5 m3, hc m5 m4]
  have p23 : badM [m0, m1, m2, m3, m4, m5] A m3 m2 = !nb4 (A m0 m2) (A m1 m2) (A m2 m4) (A m2 m5) (A m0 m3) (A m1 m3) (A m3 m4) (A m3 m5) := by
    rw [badM_comm, bad4 hs (a := m2) (b := m3) (x1 := m0) (x2 := m1) (x3 := m4) (x4 := m5) (perm6 (by intro c; simp only [List.count_cons, List.count_nil] <;> omega)) ((perm6 (by intro c; simp only [List.count_cons, List.count_nil] <;> omega)).nodup_iff.mp hn)]
    rw [hc m2 m0, hc m2 m1, hc m3 m0, hc m3 m1]
  have p24 : badM [m0, m1, m2, m3, m4, m5] A m4 m2 = !nb4 (A m0 m2) (A m1 m2) (A m2 m3) (A m2 m5) (A m0 m4) (A m1 m4) (A m3 m4) (A m4 m5) := by
    rw [badM_comm, bad4 hs (a := m2) (b := m4) (x1 := m0) (x2 := m1) (x3 := m3) (x4 := m5) (perm6 (by intro c; simp only [List.count_cons, List.count_nil] <;> omega)) ((perm6 (by intro c; simp only [List.count_cons, List.count_nil] <;> omega)).nodup_iff.mp hn)]
    rw [hc m2 m0, hc m2 m1, hc m4 m0, hc m4 m1, hc m4 m3]
  have p25 : badM [m0, m1, m2, m3, m4, m5] A m5 m2 = !nb4 (A m0 m2) (A m1 m2) (A m2 m3) (A m2 m4) (A m0 m5) (A m1 m5) (A m3 m5) (A m4 m5) := by
    rw [badM_comm, bad4 hs (a := m2) (b := m5) (x1 := m0) (x2 := m1) (x3 := m3) (x4 := m4) (perm6 (by intro c; simp only [List.count_cons, List.count_nil] <;> omega)) ((perm6 (by intro c; simp only [List.count_cons, List.count_nil] <;> omega)).nodup_iff.mp hn)]
    rw [hc m2 m0, hc m2 m1, hc m5 m0, hc m5 m1, hc m5 m3, hc m5 m4]
  have p34 : badM [m0, m1, m2, m3, m4, m5] A m4 m3 = !nb4 (A m0 m3) (A m1 m3) (A m2 m3) (A m3 m5) (A m0 m4) (A m1 m4) (A m2 m4) (A m4 m5) := by
    rw [badM_comm, bad4 hs (a := m3) (b := m4) (x1 := m0) (x2 := m1) (x3 := m2) (x4 := m5) (perm6 (by intro c; simp only [List.count_cons, List.count_nil] <;> omega)) ((perm6 (by intro c; simp only [List.count_cons, List.count_nil] <;> omega)).nodup_iff.mp hn)]
    rw [hc m3 m0, hc m3 m1, hc m3 m2, hc m4 m0, hc m4 m1, hc m4 m2]
  have p35 : badM [m0, m1, m2, m3, m4, m5] A m5 m3 = !nb4 (A m0 m3) (A m1 m3) (A m2 m3) (A m3 m4) (A m0 m5) (A m1 m5) (A m2 m5) (A m4 m5) := by
    rw [badM_comm, bad4 hs (a := m3) (b := m5) (x1 := m0) (x2 := m1) (x3 := m2) (x4 := m4) (perm6 (by intro c; simp only [List.count_cons, List.count_nil] <;> omega)) ((perm6 (by intro c; simp only [List.count_cons, List.count_nil] <;> omega)).nodup_iff.mp hn)]
    rw [hc m3 m0, hc m3 m1, hc m3 m2, hc m5 m0, hc m5 m1, hc m5 m2, hc m5 m4]
  have p45 : badM [m0, m1, m2, m3, m4, m5] A m5 m4 = !nb4 (A m0 m4) (A m1 m4) (A m2 m4) (A m3 m4) (A m0 m5) (A m1 m5) (A m2 m5) (A m3 m5) := by
    rw [badM_comm, bad4 hs (a := m4) (b := m5) (x1 := m0) (x2 := m1) (x3 := m2) (x4 := m3) (perm6 (by intro c; simp only [List.count_cons, List.count_nil] <;> omega)) ((perm6 (by intro c; simp only [List.count_cons, List.count_nil] <;> omega)).nodup_iff.mp hn)]
    rw [hc m4 m0, hc m4 m1, hc m4 m2, hc m4 m3, hc m5 m0, hc m5 m1, hc m5 m2, hc m5 m3]
  unfold nest15
  simp only [List.pairwise_cons, List.mem_cons, List.not_mem_nil, or_false, forall_eq_or_imp, forall_eq, p01, p02, p03, p04, p05, p12, p13, p14, p15, p23, p24, p25, p34, p35, p45, Bool.not_eq_false', Bool.and_eq_true, List.Pairwise.nil, and_true, and_assoc, false_implies, implies_true]
end
section
variable {ws ts ts' : List Nat} {sp sp' : List (Nat × Nat)} {ls ls' : List Str} {ns : List Int}
theorem len6 {α : Type} {l : List α} (h : l.length = 6) : ∃ a b c d e f, l = [a, b, c, d, e, f] := by
  match l, h with
  | [a, b, c, d, e, f], _ => exact ⟨a, b, c, d, e, f, rfl⟩
theorem fair_deg (b : Book ws ts sp ls) (hf : egOk (qv ws) = true) : ∀ z ∈ ws.zip marks, z.1 = marks.countP (adj ls z.2) := by
  intro z hz
  obtain ⟨i, hi, h1, h2⟩ := zip_at b hz
  obtain ⟨k, h3, h4⟩ := b.sp_at hi
  have hk : k = 0 := (fin_zero b.wl b.wm b.tl).mpr hf _ (b.sp1.mem_iff.mp (List.mem_of_getElem? h3))
  rw [h1, hk, Nat.zero_add] at h4
  rw [Option.some.inj h4, h2, deg_adj b]
/-- the people by falling wish -/
theorem fall (h : ws.length = 6) : ∃ d0 d1 d2 d3 d4 d5 m0 m1 m2 m3 m4 m5 : Nat, (qv ws).reverse = [d0, d1, d2, d3, d4, d5] ∧ [m0, m1, m2, m3, m4, m5].Perm marks ∧
    (d0, m0) ∈ ws.zip marks ∧ (d1, m1) ∈ ws.zip marks ∧ (d2, m2) ∈ ws.zip marks ∧ (d3, m3) ∈ ws.zip marks ∧ (d4, m4) ∈ ws.zip marks ∧ (d5, m5) ∈ ws.zip marks ∧
    d1 ≤ d0 ∧ d2 ≤ d1 ∧ d3 ≤ d2 ∧ d4 ≤ d3 ∧ d5 ≤ d4 := by
  obtain ⟨f1, f2, f3⟩ := foldl_ins (q := []) .nil (ws.zip marks)
  rw [List.append_nil] at f3
  have hl : (qOf (ws.zip marks)).reverse.length = 6 := by
    rw [List.length_reverse]
    show ((ws.zip marks).foldl ins []).length = 6
    rw [f3.length_eq, List.length_zip, h]; rfl
  obtain ⟨a, b, c, d, e, f, hq⟩ := len6 hl
  have hp : [a, b, c, d, e, f].Perm (ws.zip marks) := by
    rw [← hq]; exact (List.reverse_perm _).trans f3
  have hs : [a, b, c, d, e, f].Pairwise fun x y => y.1 ≤ x.1 := by
    rw [← hq, List.pairwise_reverse]; exact f1
  simp only [List.pairwise_cons, List.mem_cons, forall_eq_or_imp] at hs
  refine ⟨a.1, b.1, c.1, d.1, e.1, f.1, a.2, b.2, c.2, d.2, e.2, f.2, ?_, ?_, hp.mem_iff.mp (by simp), hp.mem_iff.mp (by simp), hp.mem_iff.mp (by simp), hp.mem_iff.mp (by simp), hp.mem_iff.mp (by simp), hp.mem_iff.mp (by simp),
    hs.1.1, hs.2.1.1, hs.2.2.1.1, hs.2.2.2.1.1, hs.2.2.2.2.1.1⟩
  · show (vals (qOf (ws.zip marks))).reverse = _
    rw [vals, ← List.map_reverse, hq]; rfl
  · have := hp.map (·.2)
    rw [List.map_snd_zip (by rw [h]; decide)] at this
    exact this
theorem all15 (b : Book ws ts sp ls) (hf : egOk (qv ws) = true) {d0 d1 d2 d3 d4 d5 m0 m1 m2 m3 m4 m5 : Nat} (hm : [m0, m1, m2, m3, m4, m5].Perm marks)
    (z0 : (d0, m0) ∈ ws.zip marks) (z1 : (d1, m1) ∈ ws.zip marks) (z2 : (d2, m2) ∈ ws.zip marks) (z3 : (d3, m3) ∈ ws.zip marks) (z4 : (d4, m4) ∈ ws.zip marks) (z5 : (d5, m5) ∈ ws.zip marks)
    (h01 : d1 ≤ d0) (h12 : d2 ≤ d1) (h23 : d3 ≤ d2) (h34 : d4 ≤ d3) (h45 : d5 ≤ d4) :
    fin15 d0 d1 d2 d3 d4 d5 (adj ls m0 m1) (adj ls m0 m2) (adj ls m0 m3) (adj ls m0 m4) (adj ls m0 m5) (adj ls m1 m2) (adj ls m1 m3) (adj ls m1 m4) (adj ls m1 m5) (adj ls m2 m3) (adj ls m2 m4) (adj ls m2 m5) (adj ls m3 m4) (adj ls m3 m5) (adj ls m4 m5) = true := by
  have hd := fair_deg b hf
  have e : ∀ c, [m0, m1, m2, m3, m4, m5].countP (adj ls c) = marks.countP (adj ls c) := fun c => hm.countP_eq _
  exact core15 (adj_comm ls) (adj_self b) h01 h12 h23 h34 h45 ((hd _ z0).trans (e _).symm) ((hd _ z1).trans (e _).symm) ((hd _ z2).trans (e _).symm) ((hd _ z3).trans (e _).symm) ((hd _ z4).trans (e _).symm) ((hd _ z5).trans (e _).symm)
theorem m_nested (b : Book ws ts sp ls) (hp : ns.Perm (nums ws)) (hs : ns.Pairwise fun a b => a ≤ b) (hf : fairB ns.reverse (nums ws).sum 6 = true) : (∀ i, i < 6 → ∀ k, k < i → bad ls i k = false) ↔ tightB ns.reverse 6 = true := by
  rw [fair_qv b.wl hp hs] at hf
  obtain ⟨d0, d1, d2, d3, d4, d5, m0, m1, m2, m3, m4, m5, hq, hm, z0, z1, z2, z3, z4, z5, h01, h12, h23, h34, h45⟩ := fall b.wl
  have h := all15 b hf hm z0 z1 z2 z3 z4 z5 h01 h12 h23 h34 h45
  rw [all_pw, pw_perm hm, nest_pw (adj_comm ls) (adj_self b) (hm.nodup_iff.mpr marks_nodup), tight_qv b.wl hp hs, hq]
  unfold fin15 at h
  rw [Bool.and_eq_true] at h
  rw [eq_of_beq h.1]
theorem m_same (b : Book ws ts sp ls) (b' : Book ws ts' sp' ls') (hp : ns.Perm (nums ws)) (hs : ns.Pairwise fun a b => a ≤ b) (hf : fairB ns.reverse (nums ws).sum 6 = true) (ht : tightB ns.reverse 6 = true) : ls = ls' := by
  rw [fair_qv b.wl hp hs] at hf
  rw [tight_qv b.wl hp hs] at ht
  obtain ⟨d0, d1, d2, d3, d4, d5, m0, m1, m2, m3, m4, m5, hq, hm, z0, z1, z2, z3, z4, z5, h01, h12, h23, h34, h45⟩ := fall b.wl
  rw [hq] at ht
  have h := all15 b hf hm z0 z1 z2 z3 z4 z5 h01 h12 h23 h34 h45
  have h' := all15 b' hf hm z0 z1 z2 z3 z4 z5 h01 h12 h23 h34 h45
  unfold fin15 at h h'
  rw [ht] at h h'
  simp only [Bool.and_eq_true, Bool.not_true, Bool.false_or, beq_iff_eq] at h h'
  obtain ⟨_, g01, g02, g03, g04, g05, g12, g13, g14, g15, g23, g24, g25, g34, g35, g45⟩ := h
  obtain ⟨_, k01, k02, k03, k04, k05, k12, k13, k14, k15, k23, k24, k25, k34, k35, k45⟩ := h'
  have hall : ∀ x ∈ [m0, m1, m2, m3, m4, m5], ∀ y ∈ [m0, m1, m2, m3, m4, m5], adj ls x y = adj ls' x y := by
    have hpw : [m0, m1, m2, m3, m4, m5].Pairwise fun x y => adj ls x y = adj ls' x y := by
      simp only [List.pairwise_cons, List.mem_cons, List.not_mem_nil, or_false, forall_eq_or_imp, forall_eq, List.Pairwise.nil, and_true, false_implies, implies_true, g01, k01, g02, k02, g03, k03, g04, k04, g05, k05, g12, k12, g13, k13, g14, k14, g15, k15, g23, k23, g24, k24, g25, k25, g34, k34, g35, k35, g45, k45]
    intro x hx y hy
    obtain ⟨i, hi, rfl⟩ := List.getElem_of_mem hx
    obtain ⟨j, hj, rfl⟩ := List.getElem_of_mem hy
    rcases Nat.lt_trichotomy i j with q | q | q
    · exact List.pairwise_iff_getElem.mp hpw i j hi hj q
    · subst q; rw [adj_self b, adj_self b']
    · rw [adj_comm ls, adj_comm ls']; exact List.pairwise_iff_getElem.mp hpw j i hj hi q
  have hmk : ∀ x ∈ marks, ∀ y ∈ marks, adj ls x y = adj ls' x y := fun x hx y hy => hall x (hm.mem_iff.mpr hx) y (hm.mem_iff.mpr hy)
  have sub : ∀ {ts₁ ts₂ : List Nat} {s₁ s₂ : List (Nat × Nat)} {l₁ l₂ : List Str}, Book ws ts₁ s₁ l₁ → Book ws ts₂ s₂ l₂ → (∀ x ∈ marks, ∀ y ∈ marks, adj l₁ x y = adj l₂ x y) → ∀ x ∈ l₁, x ∈ l₂ := by
    intro ts₁ ts₂ s₁ s₂ l₁ l₂ c₁ c₂ hh x hx
    obtain ⟨l, hl, rfl⟩ := (ls_mem c₁).mp hx
    obtain ⟨_, k1, k2⟩ := lnk_marks c₁ l hl
    have h1 : adj l₁ l.1 l.2 = true := (adj_iff c₁).mpr (.inl hl)
    rw [hh _ k1 _ k2] at h1
    obtain ⟨y, hy, e⟩ := List.any_eq_true.mp h1
    rw [← show y = pairS l from eq_of_beq e]
    exact hy
  have nd : ∀ {ts₁ : List Nat} {s₁ : List (Nat × Nat)} {l₁ : List Str}, Book ws ts₁ s₁ l₁ → l₁.Nodup := fun c => c.ls1.nodup_iff.mpr c.inv.1.nod
  refine sorted_eq b.ls2 b'.ls2 ((List.perm_ext_iff_of_nodup (nd b) (nd b')).mpr fun x => ⟨sub b b' hmk x, sub b' b (fun x hx y hy => (hmk x hx y hy).symm) x⟩)
end
end Mine
end
section
open PySem PySem.W PySem.Calls PyProof.Rows
namespace Mine
section
variable {prog : Program} {w : World} {A : Around} {E : Value → Shared → Prop} {s : Shared} {h₀ h h' : Heap} {L I l : Addr} {m : Loc} {led : Led} {o o' : Obj}
/-- a tuple's iterator at place i -/
def IterT (o : Obj) (l : Addr) (i : Nat) : Prop := o.cls = .type "tuple_iterator" ∧ o.data = .fields #[.ref l, .int i 0]
theorem iter_tupL {items : Array Value} {Q : Value → Shared → Prop} (F : Fr h₀ L s.heap m) (N : News h₀ L s.heap led) (hl : s.heap.IsTuple l items)
    (h : ∀ I o h', IterT o l 0 → (∀ p ∈ led, p.1 < I) → Fr h₀ L h' m → News h₀ L h' ((I, o) :: led) → Q (.ref I) { s with heap := h' }) : wpAny (model prog w) A (pyIter (.ref l)) Q E s :=
  wpAny_pyIter_tuple hl (h _ _ _ ⟨rfl, rfl⟩ (fun p hp => Heap.lt_size (N p hp).1) (F.push _) (N.push F _))
theorem next_tupL {items : Array Value} {i : Nat} {v : Value} {Q : Option Value → Shared → Prop} (F : Fr h₀ L s.heap m) (N : News h₀ L s.heap ((I, o) :: led)) (hI : ∀ p ∈ led, p.1 ≠ I) (hi : IterT o l i) (hl : s.heap.IsTuple l items) (hx : items[i]? = some v)
    (h : ∀ o' h', IterT o' l (i + 1) → Fr h₀ L h' m → News h₀ L h' ((I, o') :: led) → Q (some v) { s with heap := h' }) : wpAny (model prog w) A (pyNext (.ref I)) Q E s := by
  refine wpAny_pyNext_tuple_item ⟨o, (N _ (.head _)).1, hi.1, hi.2⟩ hl hx fun h' hit hs => ?_
  obtain ⟨o', ho', hc, hd⟩ := hit
  exact h o' h' ⟨hc, hd⟩ (fr_but F N hs) (news_but N hI hs ho')
theorem next_tupL_end {items : Array Value} {i : Nat} {Q : Option Value → Shared → Prop} (hh : A.handled = none) (F : Fr h₀ L s.heap m) (N : News h₀ L s.heap ((I, o) :: led)) (hI : ∀ p ∈ led, p.1 ≠ I) (hi : IterT o l i) (hl : s.heap.IsTuple l items) (hx : items[i]? = none)
    (h : ∀ h', Fr h₀ L h' m → News h₀ L h' led → Q none { s with heap := h' }) : wpAny (model prog w) A (pyNext (.ref I)) Q E s :=
  wpAny_pyNext_tuple_end hh ⟨o, (N _ (.head _)).1, hi.1, hi.2⟩ hl hx fun h' hs => h h' (fr_ext F N hs) (news_ext N hI hs)
end
/-- the order of a time -/
def ordN (ts : List Nat) : Nat → List Nat
  | 0 => ts
  | _ => [5, 4, 3, 2, 1, 0]
theorem ord1_max {ts : List Nat} : ∀ x ∈ ordN ts 1, x ≤ 5 := by
  show ∀ x ∈ [5, 4, 3, 2, 1, 0], x ≤ 5
  decide
theorem row_nl (k c : Nat) : row k c ++ Str.ofString "\n" = mailRow (k, c) := by
  have h : Str.ofString "\n" = ⟨#[10]⟩ := by decide +kernel
  rw [h]
  apply Str.ext'
  apply Array.ext'
  simp [row, mailRow, Str.cps_append]
theorem strs_nl {sp : List (Nat × Nat)} : ∀ {vs ys : List Value}, StrsAre vs (rws sp) → Paired (fun v y => ∃ l t t', v = .str l t ∧ y = .str (l ++ Str.ofString "\n") t') vs ys → StrsAre ys (sp.map mailRow) := by
  induction sp with
  | nil => intro vs ys h hp; cases h; cases hp; exact .nil
  | cons p r ih =>
    intro vs ys h hp
    unfold rws at h
    rw [List.map_cons] at h
    cases h with
    | cons _ t h' =>
      cases hp with
      | cons e hp' =>
        obtain ⟨l, t1, t2, e1, rfl⟩ := e
        cases e1
        rw [List.map_cons, row_nl]
        exact .cons _ _ (ih h' hp')
theorem row_nl_fit {ws ts : List Nat} {sp : List (Nat × Nat)} {ls : List Str} (b : Book ws ts sp ls) {i : Nat} {y : Str} (hy : (rws sp)[i]? = some y) : y.length + (Str.ofString "\n").length ≤ sizeLine := by
  have hm := List.mem_of_getElem? hy
  obtain ⟨p, hp, rfl⟩ := List.mem_map.mp hm
  have := m_rows b p hp
  rw [row_length, sizeLine_eq, show (Str.ofString "\n").length = 1 by decide +kernel]
  omega
theorem mailRow_len (p : Nat × Nat) : (mailRow p).length = p.1 + 3 := by
  unfold mailRow Str.length
  simp
theorem join_fit {ws ts : List Nat} {sp : List (Nat × Nat)} {ls : List Str} (b : Book ws ts sp ls) : ((sp.map mailRow).map (·.length)).sum + (sp.map mailRow).length * (Str.ofString "").length ≤ 16777216 := by
  rw [show (Str.ofString "").length = 0 by decide +kernel, Nat.mul_zero, Nat.add_zero]
  refine Nat.le_trans (sum_le (k := 10) ?_) ?_
  · intro y hy
    obtain ⟨z, hz, rfl⟩ := List.mem_map.mp hy
    have := m_rows b z hz
    rw [mailRow_len]; omega
  · rw [List.length_map, m_spl b]; omega
theorem join_mail {prog : Program} {w : World} {A : Around} {E : Value → Shared → Prop} {s : Shared} {h₀ : Heap} {L D : Addr} {led : Led} {mvs : List Value} {km : Nat} {t : Tok} {Q : Value → Shared → Prop} {ws ts : List Nat} {sp : List (Nat × Nat)} {ls : List Str} (b : Book ws ts sp ls)
    (N : News h₀ L s.heap ((D, lst mvs km) :: led)) (hmv : StrsAre mvs (sp.map mailRow)) (h : ∀ x t' k, x = mailT sp → Q (.str x t') { s with toks := k }) : wpAny (model prog w) A (call (.builtin "str.join") [.str (Str.ofString "") t, .ref D]) Q E s := by
  refine join_list (News.isList (items := mvs.toArray) N (.head _)) hmv (join_fit b) ?_
  intro t' k
  exact h _ t' k rfl
theorem quo_ok' (w : World) (mean mg mb) {ws ts : List Nat} {sp : List (Nat × Nat)} {ls : List Str} (b : Book ws ts sp ls) (x : Str) (t : Tok) (news : Led) (hx : x = mailT sp) :
    CallsTo w mean mg mb 82 [.str x t] [] 1 news (fun v n' => ∃ z t', v = .str z t' ∧ z = dueT ws ls ∧ ∀ p ∈ news, p ∈ n') := by
  subst hx
  intro dp un gd cn cs a ccd cl outer A₀ base h₀ L m s Q E B₀ F X N T hk hd hu hret
  refine quo_ok w mean mg mb (mailT sp) t news (m_len b) (m_no13 b) dp un gd cn cs a ccd cl outer A₀ base h₀ L m s Q E B₀ F X N T hk hd hu ?_
  rintro v news' h' tk' F' N' ⟨y, z, t', rfl, hy, hz, P1, P2, v1, k1, v2, k2, rfl, l1, l2⟩
  exact hret _ _ _ _ F' N' ⟨z, t', rfl, m_sent b hy hz, fun p hp => .tail _ (.tail _ hp)⟩
theorem due_ok' (w : World) (mean mg mb) {ws ts : List Nat} {sp : List (Nat × Nat)} {ls : List Str} (b : Book ws ts sp ls) (wvs lvs : List Value) (hw : IntsAre wvs (nums ws)) (hls : StrsAre lvs ls)
    (aw al : Addr) (n n' : Nat) (rest : Led) (hmw : (aw, lst wvs n) ∈ rest) (hml : (al, lst lvs n') ∈ rest) :
    CallsTo w mean mg mb 108 [.ref aw, .ref al] [] 1 rest (fun v n' => n' = rest ∧ ∃ z t, v = .str z t ∧ z = dueT ws ls) := by
  intro dp un gd cn cs a ccd cl outer A₀ base h₀ L m s Q E B₀ F X N T hk hd hu hret
  refine due_ok w mean mg mb ws wvs lvs ls hw b.wl b.wm hls (m_ll b) (m_deg b) aw al n n' rest hmw hml dp un gd cn cs a ccd cl outer A₀ base h₀ L m s Q E B₀ F X N T hk hd hu ?_
  rintro v news' h' tk' F' N' ⟨rfl, t', rfl⟩
  exact hret _ _ _ _ F' N' ⟨rfl, _, t', rfl, rfl⟩
theorem beq_cnt (a b : Nat) : ((a : Int) == (b : Int) + 12) = decide (a = b + 12) := by
  by_cases h : a = b + 12
  · rw [decide_eq_true h]; simp; omega
  · rw [decide_eq_false h]; simp; omega
section
variable {prog : Program} {w : World} {A : Around} {E : Value → Shared → Prop} {s : Shared}
theorem item_any0 {value slice : PySem.Expr} {l : Addr} {vs : List Value} {v : Value} {u : Tok} {Q : Value → Shared → Prop} (hl : s.heap.IsList l vs.toArray) (hv : vs[0]? = some v) (h : Q v s)
    (hs : subscripted slice false (.ref l) (.int 0 u) = operate [.ref l, .int 0 u] (getItem (.ref l) (.int 0 u)) := by with_unfolding_all rfl) :
    wpAny (model prog w) A (subscriptTail value slice (.ref l) (.int 0 u)) Q E s := item_any (i := 0) hl hv (by omega) h hs
theorem item_any1 {value slice : PySem.Expr} {l : Addr} {vs : List Value} {v : Value} {u : Tok} {Q : Value → Shared → Prop} (hl : s.heap.IsList l vs.toArray) (hv : vs[1]? = some v) (h : Q v s)
    (hs : subscripted slice false (.ref l) (.int 1 u) = operate [.ref l, .int 1 u] (getItem (.ref l) (.int 1 u)) := by with_unfolding_all rfl) :
    wpAny (model prog w) A (subscriptTail value slice (.ref l) (.int 1 u)) Q E s := item_any (i := 1) hl hv (by omega) h hs
end
end Mine
end
section
open PySem PySem.W PyProof.Rows
set_option pp.deepTerms false
set_option pp.deepTerms.threshold 3
set_option pp.maxSteps 3000
namespace Mine
local macro_rules | `(tactic| walk_at "st") => `(tactic| ((with_reducible show wpAny _ _ _ _ _ _); (fail_if_success (with_reducible show wpAny _ _ (exec (Stmt.While _ _ _ _) _) _ _ _)); (fail_if_success (with_reducible show wpAny _ _ (exec (Stmt.For _ _ _ _ _) _) _ _ _)); (fail_if_success (with_reducible show wpAny _ _ (call (Value.ref _) _ _) _ _ _)); first | (k_unfold; (try dsimp only)) | walk1 | (dsimp only; walk1)))
local macro_rules | `(tactic| walk_at "go") => `(tactic| repeat' walk_at "st")
local macro_rules | `(tactic| walk_at "fr") => `(tactic| (refine' fr_fin ?frl ?frr; (case frl => repeat' (first | with_reducible apply B_cons' | exact rfl)); (case frr => repeat' (first | exact trivial | refine And.intro (by with_unfolding_all rfl) ?_))))
local macro_rules | `(tactic| walk_at "fs") => `(tactic| (unfold fitsSsize; simp; omega))
local macro_rules | `(tactic| walk_at "ret") => `(tactic| (refine ⟨_, _, _, _, rfl, by assumption, by assumption, ?_⟩))
local macro_rules | `(tactic| walk_at "sj") => `(tactic| ((fail_if_success (with_reducible show wpAny _ _ (subscriptTail _ (Expr.Slice _ _ _ _) (Value.ref _) _) _ _ _)); (fail_if_success (with_reducible show wpAny _ _ (call (Value.builtin "len") [Value.ref _]) _ _ _)); (fail_if_success (with_reducible show wpAny _ _ (call (Value.builtin "list.pop") _) _ _ _)); (fail_if_success (with_reducible show wpAny _ _ (call (Value.builtin "list.insert") _) _ _ _)); (fail_if_success (with_reducible show wpAny _ _ (call (Value.builtin "list.append") _) _ _ _));  (fail_if_success (with_reducible show wpAny _ _ (call (Value.builtin "sorted") _ _) _ _ _));  walk_at "sti"))
local macro_rules | `(tactic| walk_at "goj") => `(tactic| repeat' walk_at "sj")
local macro_rules | `(tactic| walk_at "sti") => `(tactic| first | walk_at "st" | ((with_reducible show Frag.In _ _ ∧ _); refine ⟨by k_in, ?_⟩) | ((with_reducible show ite _ _ _); first | (rw [if_pos (by first | rfl | decide)]) | (rw [if_neg (by first | decide | (intro h; cases h))]) | walk1))
local macro_rules | `(tactic| walk_at "goi") => `(tactic| repeat' walk_at "sti")
local macro_rules | `(tactic| walk_at "fx") => `(tactic| (refine' fr_front ?frl ?frr; (case frl => repeat' (first | with_reducible apply B_cons' | exact rfl)); (case frr => repeat' (first | exact trivial | refine And.intro (by with_unfolding_all rfl) ?_))))
local macro_rules | `(tactic| walk_at "sk") => `(tactic| ((fail_if_success (with_reducible show wpAny _ _ (eval (Expr.ListComp _ _ _ _) _) _ _ _)); (fail_if_success (with_reducible show wpAny _ _ (exec (Stmt.Assign _ (Expr.ListComp _ _ _ _) _) _) _ _ _)); (fail_if_success (with_reducible show wpAny _ _ (compareOp CmpOp.NotEq (Value.ref _) (Value.ref _)) _ _ _)); (fail_if_success (with_reducible show wpAny _ _ (call (Value.builtin "len") [Value.str _ _]) _ _ _)); (fail_if_success (with_reducible show wpAny _ _ (compareOp CmpOp.Eq (Value.ref _) (Value.ref _)) _ _ _)); (fail_if_success (with_reducible show wpAny _ _ (call (Value.builtin "str.join") _) _ _ _)); (fail_if_success (with_reducible show wpAny _ _ (subscriptTail _ _ (Value.ref _) (Value.int _ _)) _ _ _)); walk_at "sj"))
local macro_rules | `(tactic| walk_at "gok") => `(tactic| repeat' walk_at "sk")
set_option maxRecDepth 100000 in
set_option maxHeartbeats 8000000 in
theorem law_ok : PySem.Challenge.rw_re0033_01.Holds := by
  refine hd ?_
  k_go0
  rename_i w s₀ s₁ mg mb G Y fa o pm doc kV ho hg KX X V GL T B TE TW x9 x8 M x7 x6 hcd ns hs hlay0 hL1 hr1 hl2 as4 as3 a vs as0 hL ra w1 r0 hI hr hc1 hc0 K0 hD h₁ F N
  generalize hLa : s₁.heap.objs.size = L at F N ⊢
  refine wpAny_mono (Q := RetP s₁.heap L s₁ (fun v _ => v = .bool true)) (E := fun _ _ => False) ?hw (fun fl s' hl => ?_) (fun _ _ x => x.elim)
  case hw =>
    show wpAny _ (ktrTop _ _ _ _ _ L _ _ [] _) _ _ _ _
    dsimp only
    have hlen : ns.length ≤ 63 := by omega
    have hL₁ : h₁.IsList a vs.toArray := hL.at fun o e => F.keep _ o e
    walk_at "gok"
    refine comp_freeA (fun _ => true) (fun v y => ∃ a ta tb, v = .int a ta ∧ y = .int (a.fmod 6) tb) rfl rfl (by decide) rfl (by decide) rfl rfl rfl ?_
    walk_at "gok"
    refine kms_slice_lit (s := ⟨_, _, _, _, _⟩) (its := vs.toArray) (zs := vs.take 12) (by assumption) (by assumption) hL₁ .none (IsPart.int _ _) (pick_upto' 12) ?_ (by with_unfolding_all rfl) (by intro _; with_unfolding_all rfl) (by rw [List.size_toArray, IntsAre.length hI, sizeLine_eq]; omega)
    intro D1 h2 F2 N2 ltD1
    refine iter_walk_listA rfl F2 N2 (vs := vs.take 12) (News.isList N2 (.head _)) (by rw [List.length_take]; omega) ?_ ?_ ?_
    · intro C v s₃ m₃ E' hv hns hm hk hC
      exact wpAny_pure ⟨rfl, keeps_refl _⟩
    · intro C v s₃ m₃ E' hv hp hns hm hk hC
      obtain ⟨x, tx, rfl⟩ := hI.all v (List.mem_of_mem_take hv)
      walk_at "sti"
      refine wpAny_Name (wpAny_loadName_local rfl rfl hns hm ?_) (by decide)
      walk_at "sti"
      refine mod_int' (by decide) ⟨⟨x, tx, _, rfl, rfl⟩, _, _, rfl, fun _ _ e => e⟩
    · intro D h3 tk3 ys k3 F3 N3 hD3 hpair
      rw [List.filter_eq_self.mpr (fun _ _ => rfl)] at hpair
      have hys := ints_paired (f := fun a => a.fmod 6) (hI.take 12) hpair
      obtain ⟨ds, hds, hds5, hdsl⟩ := to_ds (ns.take 12)
      rw [hds] at hys
      have hdl : ds.length ≤ 12 := by rw [hdsl, List.length_take]; omega
      have hyl : ys.length = ds.length := by rw [IntsAre.length hys, List.length_map]
      dsimp only
      replace F3 : Fr s₁.heap L h3 (BX [("draws", .ref D), ("script", .ref a)] []) := fr_of F3 (B_cons' [("script", .ref a)] _ _ rfl)
      replace N3 : News s₁.heap L h3 [(D, lst ys k3)] := fun p hp => N3 p (by simp only [List.mem_singleton] at hp; rw [hp]; exact .head _)
      clear F2 N2 F N hpair
      walk_at "gok"
      refine kms_slice_lit (s := ⟨_, _, _, _, _⟩) (its := ys.toArray) (zs := ys.take 6) (by assumption) (by assumption) (News.isList (by assumption) (.head _)) .none (IsPart.int _ _) (pick_upto' 6) ?_ (by with_unfolding_all rfl) (by intro _; with_unfolding_all rfl) (by rw [List.size_toArray, hyl, sizeLine_eq]; omega)
      intro D4 h4 F4 N4 ltD4
      walk_at "gok"
      rename_i E1 h5 F5 N5 l5
      refine kms_slice_lit (s := ⟨_, _, _, _, _⟩) (its := ys.toArray) (zs := ys.take 6) (by assumption) (by assumption) (News.isList (by assumption) (.tail _ (.tail _ (.head _)))) .none (IsPart.int _ _) (pick_upto' 6) ?_ (by with_unfolding_all rfl) (by intro _; with_unfolding_all rfl) (by rw [List.size_toArray, hyl, sizeLine_eq]; omega)
      intro D6 h6 F6 N6 ltD6
      walk_at "gok"
      refine len_ints_fit (News.isList N6 (.head _)) (hys.take 6) (by rw [List.length_take, List.length_map]; omega) ?_
      walk_at "gok"
      obtain ⟨lv, hlv, hlE⟩ : ∃ lv : List Value, IntsAre lv (nums [3, 3, 2, 2, 1, 1]) ∧ h6.IsList E1 lv.toArray := ⟨_, .cons _ _ (.cons _ _ (.cons _ _ (.cons _ _ (.cons _ _ (.cons _ _ .nil))))), News.isList N6 (.tail _ (.head _))⟩
      refine kba_turn (value' := .Name (Str.ofString "q") ⟨0, 0, 0, 0⟩) (fun _ => rfl) ?_
      refine kms_slice_lit (s := ⟨_, _, _, _, _⟩) (its := lv.toArray) (zs := lv.drop (nums ds |>.take 6).length) (by assumption) (by assumption) hlE (IsPart.int _ _) .none (pick_from' _) ?_ (by with_unfolding_all rfl) (by intro _; with_unfolding_all rfl) (by rw [List.size_toArray, IntsAre.length hlv, sizeLine_eq]; decide)
      intro D7 h7 F7 N7 ltD7
      have hls := News.isList (items := (ys.take 6).toArray) N7 (.tail _ (.tail _ (.tail _ (.head _))))
      refine kmk_add_ints F7 N7 hls (News.isList N7 (.head _)) (hys.take 6) (hlv.drop _) ?_ (by rw [sizeLine_eq, List.length_take, List.length_drop]; simp; omega)
      intro W wv h8 F8 N8 ltW hwv
      have hww : IntsAre wv (nums (fill (ds.take 6) [3, 3, 2, 2, 1, 1])) := by
        rw [← fill_nums]; unfold nums at hwv ⊢; rw [List.map_take]; rw [List.length_take, List.length_map, ← List.length_take] at hwv; exact hwv
      have hwl := fill_len (l := ds.take 6) (d := [3, 3, 2, 2, 1, 1]) (by rw [List.length_take]; omega) rfl
      have hwm := fill_max (l := ds.take 6) (d := [3, 3, 2, 2, 1, 1]) (fun x hx => hds5 x (List.mem_of_mem_take hx)) (by decide)
      generalize fill (ds.take 6) [3, 3, 2, 2, 1, 1] = ws at hww hwl hwm
      replace N8 : News s₁.heap L h8 [(W, lst wv 0), (D, lst ys k3)] := news_sub N8 (by intro p hp; simp only [List.mem_cons, List.not_mem_nil, or_false] at hp ⊢; rcases hp with h | h <;> simp [h])
      clear hls N7 F7 N6 F6 N5 F5 hlE hwv
      dsimp only
      walk_at "gok"
      rename_i h9 F9 N9 tk9
      have hzz : ys.toArray.size ≤ sizeLine := by rw [List.size_toArray, hyl, sizeLine_eq]; omega
      refine kms_slice_lit (s := ⟨_, _, _, _, _⟩) (its := ys.toArray) (zs := ys.drop 6) (by assumption) (by assumption) (News.isList (by assumption) (.tail _ (.head _))) (IsPart.int _ _) .none (pick_from' 6) ?_ (by with_unfolding_all rfl) (by intro _; with_unfolding_all rfl) hzz
      intro D10 h10 F10 N10 ltD10
      walk_at "gok"
      rename_i E11 h11 F11 N11 l11
      refine kms_slice_lit (s := ⟨_, _, _, _, _⟩) (its := ys.toArray) (zs := ys.drop 6) (by assumption) (by assumption) (News.isList (by assumption) (.tail _ (.tail _ (.tail _ (.head _))))) (IsPart.int _ _) .none (pick_from' 6) ?_ (by with_unfolding_all rfl) (by intro _; with_unfolding_all rfl) hzz
      intro D12 h12 F12 N12 ltD12
      walk_at "gok"
      refine len_ints_fit (News.isList N12 (.head _)) (hys.drop 6) (by rw [List.length_drop, List.length_map]; omega) ?_
      walk_at "gok"
      obtain ⟨lv2, hlv2, hlE2⟩ : ∃ lv : List Value, IntsAre lv (nums [2, 0, 4, 1, 0, 0]) ∧ h12.IsList E11 lv.toArray := ⟨_, .cons _ _ (.cons _ _ (.cons _ _ (.cons _ _ (.cons _ _ (.cons _ _ .nil))))), News.isList N12 (.tail _ (.head _))⟩
      refine kba_turn (value' := .Name (Str.ofString "q") ⟨0, 0, 0, 0⟩) (fun _ => rfl) ?_
      refine kms_slice_lit (s := ⟨_, _, _, _, _⟩) (its := lv2.toArray) (zs := lv2.drop (nums ds |>.drop 6).length) (by assumption) (by assumption) hlE2 (IsPart.int _ _) .none (pick_from' _) ?_ (by with_unfolding_all rfl) (by intro _; with_unfolding_all rfl) (by rw [List.size_toArray, IntsAre.length hlv2, sizeLine_eq]; decide)
      intro D13 h13 F13 N13 ltD13
      have hls2 := News.isList (items := (ys.drop 6).toArray) N13 (.tail _ (.tail _ (.tail _ (.head _))))
      refine kmk_add_ints F13 N13 hls2 (News.isList N13 (.head _)) (hys.drop 6) (hlv2.drop _) ?_ (by rw [sizeLine_eq, List.length_drop, List.length_drop]; simp; omega)
      intro TT tv h14 F14 N14 ltT htv
      have htt : IntsAre tv (nums (fill (ds.drop 6) [2, 0, 4, 1, 0, 0])) := by
        rw [← fill_nums]; unfold nums at htv ⊢; rw [List.map_drop]; rw [List.length_drop, List.length_map, ← List.length_drop] at htv; exact htv
      have htl := fill_len (l := ds.drop 6) (d := [2, 0, 4, 1, 0, 0]) (by rw [List.length_drop]; omega) rfl
      have htm := fill_max (l := ds.drop 6) (d := [2, 0, 4, 1, 0, 0]) (fun x hx => hds5 x (List.mem_of_mem_drop hx)) (by decide)
      generalize fill (ds.drop 6) [2, 0, 4, 1, 0, 0] = ts at htt htl htm
      have hWT : W < TT := ltT (W, lst wv 0) (by simp)
      replace N14 : News s₁.heap L h14 [(TT, lst tv 0), (W, lst wv 0)] := news_sub N14 (by intro p hp; simp only [List.mem_cons, List.not_mem_nil, or_false] at hp ⊢; rcases hp with h | h <;> simp [h])
      clear hls2 N13 F13 N12 F12 N11 F11 hlE2 htv
      dsimp only
      walk_at "gok"
      rename_i h15 F15 N15
      replace F15 : Fr s₁.heap L h15 (BX [("turns", .ref TT), ("wishes", .ref W), ("draws", .ref D), ("script", .ref a)] []) := fr_of F15 (B_cons' [("wishes", .ref W), ("draws", .ref D), ("script", .ref a)] _ _ (B_cons' [("draws", .ref D), ("script", .ref a)] _ _ rfl))
      have KB : Below callerA s₁.heap [] s₁.heap := K0
      have hdep : callerA.depth + 1 + 100 < recursionLimit := by decide +kernel
      have huni : callerA.units + 3 + 8 * 100 < cLine := by decide +kernel
      refine CallsTo.use (bnd_ok w _ _ _ ws wv hww hwl hwm W 0 _ (.tail _ (.head _))) KB F15 KX N15 T rfl (by omega) (by omega) ?_
      rintro v news' h16 tk16 F16 N16 ⟨TB, nsrt, rfl, rfl, ltTB, hperm, hsrt⟩
      walk_at "gok"
      rename_i BK h17 l17 h18 F18 N18
      replace F18 : Fr s₁.heap L h18 (BX [("books", .ref BK), ("tight", .bool (tightB nsrt.reverse 6)), ("fair", .bool (fairB nsrt.reverse (nums ws).sum 6)), ("turns", .ref TT), ("wishes", .ref W)] [("draws", .ref D), ("script", .ref a)]) :=
        fr_of F18 (B_cons' _ _ _ (B_cons' _ _ _ (B_cons' [("turns", .ref TT), ("wishes", .ref W), ("draws", .ref D), ("script", .ref a)] _ _ rfl)))
      replace N18 : News s₁.heap L h18 [(BK, lst [] 0), (TT, lst tv 0), (W, lst wv 0)] := news_sub N18 (by intro p hp; simp only [List.mem_cons, List.not_mem_nil, or_false] at hp ⊢; rcases hp with h | h | h <;> simp [h])
      have hBT : TT < BK := l17.2.1
      have hBW : W < BK := l17.2.2
      refine for_start ?_
      walk_at "gok"
      rename_i LT h19 l19 TU h20 F20 N20 l20
      obtain ⟨lo, hlo, N20⟩ : ∃ lo : List Value, IntsAre lo (nums [5, 4, 3, 2, 1, 0]) ∧ News s₁.heap L h20 [(TU, prO (.ref TT) (.ref LT)), (LT, lst lo 0), (BK, lst [] 0), (TT, lst tv 0), (W, lst wv 0)] := ⟨_, .cons _ _ (.cons _ _ (.cons _ _ (.cons _ _ (.cons _ _ (.cons _ _ .nil))))), N20⟩
      refine iter_tupL F20 N20 (items := #[.ref TT, .ref LT]) ⟨_, (N20 _ (.head _)).1, rfl, _, rfl⟩ ?_
      intro I oI h21 iI ltI F21 N21
      have hIB : BK < I := ltI (BK, lst [] 0) (by simp)
      clear F20 N20
      refine for_ind (ι := Nat) (fun j s' => ∃ h tk' oI bks nb, ∃ led1 : Led, ∃ ex : List (Str × Value), s' = { s₁ with heap := h, toks := tk' } ∧
        Fr s₁.heap L h (BX [("books", .ref BK), ("tight", .bool (tightB nsrt.reverse 6)), ("fair", .bool (fairB nsrt.reverse (nums ws).sum 6)), ("turns", .ref TT), ("wishes", .ref W)] ex) ∧
        News s₁.heap L h ((I, oI) :: (BK, lst bks nb) :: led1) ∧ IterT oI TU j ∧ (TU, prO (.ref TT) (.ref LT)) ∈ led1 ∧ (LT, lst lo 0) ∈ led1 ∧ (TT, lst tv 0) ∈ led1 ∧ (W, lst wv 0) ∈ led1 ∧ (∀ p ∈ led1, p.1 ≠ I ∧ p.1 ≠ BK) ∧
        bks.length = j ∧ j ≤ 2 ∧ ∀ k, k < j → ∃ Dk vl c ls sp, bks[k]? = some (.ref Dk) ∧ (Dk, lst vl c) ∈ led1 ∧ StrsAre vl ls ∧ Book ws (ordN ts k) sp ls) (fun j => 2 - j) PassesOwn.never ?step 0 ?init
      case init =>
        refine ⟨_, _, oI, [], 0, [(TU, prO (.ref TT) (.ref LT)), (LT, lst lo 0), (TT, lst tv 0), (W, lst wv 0)], _, rfl, F21, ?_, iI, by simp, by simp, by simp, by simp, ?_, rfl, by omega, fun k hk => absurd hk (Nat.not_lt_zero k)⟩
        · exact news_sub N21 (by intro p hp; simp only [List.mem_cons, List.not_mem_nil, or_false] at hp ⊢; rcases hp with h | h | h | h | h | h <;> simp [h])
        · intro p hp
          have hpI := ltI p (by simp only [List.mem_cons, List.not_mem_nil, or_false] at hp ⊢; rcases hp with h | h | h | h <;> simp [h])
          refine ⟨Nat.ne_of_lt hpI, ?_⟩
          simp only [List.mem_cons, List.not_mem_nil, or_false] at hp
          rcases hp with h | h | h | h
          · rw [h]; exact Nat.ne_of_gt l20.2.1
          · rw [h]; exact Nat.ne_of_gt l19.1
          · rw [h]; exact Nat.ne_of_lt hBT
          · rw [h]; exact Nat.ne_of_lt hBW
      case step =>
        rintro j s' ⟨h, tk', oI, bks, nb, led1, ex, rfl, F, N, iI, mTU, mLT, mTT, mW, ne1, hbl, hj, hbk⟩ IH
        have lTU : h.IsTuple TU #[.ref TT, .ref LT] := ⟨_, (N _ (.tail _ (.tail _ mTU))).1, rfl, _, rfl⟩
        have neI : ∀ p ∈ (BK, lst bks nb) :: led1, p.1 ≠ I := by
          intro p hp
          rcases List.mem_cons.mp hp with h | h
          · rw [h]; exact Nat.ne_of_lt hIB
          · exact (ne1 p h).1
        by_cases hlt : j < 2
        · obtain ⟨OA, ov, oc, hoa, hom, hov, hol, hom5⟩ : ∃ OA ov oc, (#[.ref TT, .ref LT] : Array Value)[j]? = some (.ref OA) ∧ (OA, lst ov oc) ∈ led1 ∧ IntsAre ov (nums (ordN ts j)) ∧ (ordN ts j).length = 6 ∧ ∀ x ∈ ordN ts j, x ≤ 5 := by
            have : j = 0 ∨ j = 1 := by omega
            rcases this with rfl | rfl
            · exact ⟨TT, tv, 0, rfl, mTT, htt, htl, htm⟩
            · exact ⟨LT, lo, 0, rfl, mLT, hlo, rfl, ord1_max⟩
          refine next_tupL F N neI iI lTU hoa ?_
          intro oI2 h22 iI2 F22 N22
          refine forStep_name ?_
          clear F N lTU
          walk_at "gok"
          rename_i h23 F23 N23
          refine CallsTo.use (lk_ok w _ _ _ ws (ordN ts j) wv ov hww hov hwl hol hwm hom5 W OA 0 oc _ (.tail _ (.tail _ mW)) (.tail _ (.tail _ hom))) KB F23 KX N23 T rfl (by omega) (by omega) ?_
          rintro v news' h24 tk24 F24 N24 ⟨T', D1', D2', svs, vl, c1, c2, sp, ls, rfl, rfl, ltD1', l12, l2T, hsvs, hperm1, hpw, hvl, hlp, hlss⟩
          have bk : Book ws (ordN ts j) sp ls := ⟨hwl, hwm, hol, hperm1, hpw, hlp, hlss⟩
          walk_at "gok"
          rename_i h25 h26 h27 F27 N27
          obtain ⟨ex2, F27⟩ : ∃ ex2, Fr s₁.heap L h27 (BX [("links", .ref D2'), ("served", .ref D1'), ("books", .ref BK), ("tight", .bool (tightB nsrt.reverse 6)), ("fair", .bool (fairB nsrt.reverse (nums ws).sum 6)), ("turns", .ref TT), ("wishes", .ref W)] ex2) := ⟨_, fr_of F27 (by walk_at "fx")⟩
          refine comp_free (fun _ => true) (fun v y => ∃ l t t', v = .str l t ∧ y = .str (l ++ Str.ofString "\n") t') rfl (by decide) rfl (by decide) rfl ?_
          walk_at "gok"
          have hsl : svs.length = 6 := by rw [StrsAre.length hsvs, List.length_map]; exact m_spl bk
          refine iter_walk_list rfl F27 N27 (vs := svs) (News.isList N27 (.tail _ (.tail _ (.head _)))) (by omega) ?_ ?_ ?_
          · intro C v s₃ m₃ E' hv hns hm hk hC
            exact wpAny_pure ⟨rfl, keeps_refl _⟩
          · intro C v s₃ m₃ E' hv hp hns hm hk hC
            obtain ⟨i, hi⟩ := List.getElem?_of_mem hv
            obtain ⟨y, ty, rfl, hy⟩ := hsvs.item i v hi
            walk_at "sti"
            refine wpAny_Name (wpAny_loadName_local rfl rfl hns hm ?_) (by decide)
            walk_at "sti"
            refine PyProof.Rows.add_str (fun t' tk' => ⟨⟨y, ty, t', rfl, rfl⟩, _, _, rfl, fun _ _ e => e⟩) (row_nl_fit bk hy)
          intro DM h28 tk28 mvs km F28 N28 hDM hpm
          rw [List.filter_eq_self.mpr (fun _ _ => rfl)] at hpm
          have hmv := strs_nl hsvs hpm
          walk_at "gok"
          refine join_mail bk N28 hmv ?_
          intro ml tM kM hml
          replace N28 : News s₁.heap L h28 ((D2', lst vl c2) :: (I, oI2) :: (BK, lst bks nb) :: led1) := news_sub N28 (by intro p hp; simp only [List.mem_cons] at hp ⊢; rcases hp with h | h | h | h <;> simp [h])
          have hID : I < D2' := Nat.lt_trans (ltD1' (I, oI2) (.head _)) l12
          have hBD : BK < D2' := Nat.lt_trans (ltD1' (BK, lst bks nb) (.tail _ (.head _))) l12
          have hlD : ∀ p ∈ led1, p.1 < D2' := fun p hp => Nat.lt_trans (ltD1' p (.tail _ (.tail _ hp))) l12
          clear F27 N27
          walk_at "gok"
          rename_i h29 F29 N29
          obtain ⟨ex3, F29⟩ : ∃ ex3, Fr s₁.heap L h29 (BX [("mail", .str ml tM), ("links", .ref D2'), ("served", .ref D1'), ("books", .ref BK), ("tight", .bool (tightB nsrt.reverse 6)), ("fair", .bool (fairB nsrt.reverse (nums ws).sum 6)), ("turns", .ref TT), ("wishes", .ref W)] ex3) := ⟨_, fr_of F29 (B_cons' _ _ _ rfl)⟩
          refine CallsTo.use (quo_ok' w _ _ _ bk ml tM _ hml) KB F29 KX N29 T rfl (by omega) (by omega) ?_
          rintro v news' h30 tk30 F30 N30 ⟨z, tz, rfl, hz, hsub⟩
          replace N30 : News s₁.heap L h30 ((D2', lst vl c2) :: (I, oI2) :: (BK, lst bks nb) :: led1) := news_sub N30 hsub
          clear hsub
          walk_at "gok"
          rename_i h31 F31 N31
          refine CallsTo.use (due_ok' w _ _ _ bk wv vl hww hvl W D2' 0 c2 _ (.tail _ (.tail _ (.tail _ mW))) (.head _)) KB F31 KX N31 T rfl (by omega) (by omega) ?_
          rintro v news' h32 tk32 F32 N32 ⟨rfl, d, td, rfl, hd2⟩
          walk_at "gok"
          · rename_i hne
            rw [hz, hd2, bne_self_eq_false] at hne
            cases hne
          have hzl : z.length ≤ 100 := by rw [hz]; exact m_small bk
          have hmll : ml.length ≤ 100 := by rw [hml]; exact m_len bk
          refine len_str (by omega) ?_
          walk_at "gok"
          refine len_str (by omega) ?_
          walk_at "gok"
          · rename_i hne
            rw [beq_cnt, hz, hml, m_count bk hperm hsrt, bne_self_eq_false] at hne
            cases hne
          refine append_led (D := BK) (vs := bks) (n := nb) (x := .ref D2') F32 N32 (.tail (Nat.ne_of_gt hBD) (.tail (Nat.ne_of_gt hIB) (.head fun p hp => (ne1 p hp).2))) (by omega) ?_
          intro h33 F33 N33
          walk_at "gok"
          refine IH (j + 1) _ (by omega) ⟨_, _, oI2, bks ++ [.ref D2'], nb + 1, (D2', lst vl c2) :: led1, ?_, rfl, fr_of F33 ?e3, news_sub N33 ?n3, iI2, .tail _ mTU, .tail _ mLT, .tail _ mTT, .tail _ mW, ?ne3, by simp [hbl], by omega, ?bk3⟩
          case e3 => walk_at "fx"
          case n3 => intro p hp; simp only [List.mem_cons] at hp ⊢; rcases hp with h | h | h | h <;> simp [h]
          case ne3 =>
            intro p hp
            rcases List.mem_cons.mp hp with h | h
            · rw [h]; exact ⟨Nat.ne_of_gt hID, Nat.ne_of_gt hBD⟩
            · exact ne1 p h
          case bk3 =>
            intro k hk
            rcases Nat.lt_succ_iff_lt_or_eq.mp hk with h | h
            · obtain ⟨Dk, vl', c, ls', sp', e1, e2, e3, e4⟩ := hbk k h
              exact ⟨Dk, vl', c, ls', sp', by rw [List.getElem?_append_left (by omega)]; exact e1, .tail _ e2, e3, e4⟩
            · subst h
              exact ⟨D2', vl, c2, ls, sp, by rw [List.getElem?_append_right (by omega), hbl, Nat.sub_self]; rfl, .head _, hvl, bk⟩
        · refine next_tupL_end rfl F N neI iI lTU (by have : j = 2 := by omega
                                                      subst this; rfl) ?_
          intro h40 F40 N40
          refine forStep_end ?_
          have hj2 : j = 2 := by omega
          subst hj2
          clear IH F N
          obtain ⟨A0, v0, c0, ls0, sp0, ha0, hm0, hs0, b0⟩ := hbk 0 (by omega)
          obtain ⟨A1, v1, c1, ls1, sp1, ha1, hm1, hs1, b1⟩ := hbk 1 (by omega)
          walk_at "gok"
          rotate_left
          · exact ⟨_, _, _, _, rfl, F40, N40, rfl⟩
          rename_i hfair
          refine item_any0 (News.isList (items := bks.toArray) N40 (.head _)) ha0 ?_
          walk_at "gok"
          refine CallsTo.use (nst_ok w _ _ _ v0 ls0 hs0 A0 c0 _ (.tail _ hm0)) KB F40 KX N40 T rfl (by omega) (by omega) ?_
          rintro v news' h41 tk41 F41 N41 ⟨rfl, nb41, rfl, hnb⟩
          rw [m_nested b0 hperm hsrt hfair, Bool.eq_iff_iff.symm] at hnb
          subst hnb
          clear F40 N40
          walk_at "gok"
          rotate_left
          · rename_i hne
            rw [beq_self_eq_true] at hne
            cases hne
          refine item_any0 (News.isList (items := bks.toArray) N41 (.head _)) ha0 ?_
          walk_at "gok"
          refine item_any1 (News.isList (items := bks.toArray) N41 (.head _)) ha1 ?_
          walk_at "gok"
          refine eq_strsK (News.isList (items := v0.toArray) N41 (.tail _ hm0)) hs0 (News.isList (items := v1.toArray) N41 (.tail _ hm1)) hs1 (m_ok b0) (m_ok b1) (show callerA.units + 3 + 64 < cLine by omega) ?_
          walk_at "gok"
          · rename_i heq
            exact ⟨_, _, _, _, rfl, F41, N41, congrArg Value.bool (decide_eq_true heq)⟩
          · rename_i hne
            refine ⟨_, _, _, _, rfl, F41, N41, congrArg Value.bool ?_⟩
            cases htg : tightB nsrt.reverse 6 with
            | false => rfl
            | true => exact absurd (m_same b0 b1 hperm hsrt hfair htg) hne
  obtain ⟨h', tk', m', news', rfl, F₁, N₁, hp⟩ := hl
  have hfl : fl = .ret (.bool true) := by
    cases fl with
    | ret v => exact congrArg _ hp
    | next => cases hp
    | cont => cases hp
    | brk => cases hp
  subst hfl
  refine ⟨.inl ⟨_, _, [], rfl, fun _ => rfl, .bool true, ?post, fun _ => ⟨.nil, fun _ h => nomatch h⟩⟩, F₁.keep, rfl, hg⟩
  case post => first | with_unfolding_all rfl | trace_state
end Mine
end
theorem PySem.Challenge.cw_re0033_01_holds : PySem.Challenge.rw_re0033_01.Holds := by
  exact Mine.law_ok
