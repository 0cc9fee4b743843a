import PyProof.Rows.All
import Wide.All
import OpenK.AllK
import Wide.FinOn
import PySem.Challenge.RW_pe0073_01
open PySem PySem.W PyProof.Rows
set_option Elab.async false
set_option linter.all false
/-! PeTop -/
namespace Mine
set_option maxRecDepth 100000
set_option maxHeartbeats 8000000
open_top hd for PySem.Challenge.rw_pe0073_01
end Mine
/-! PeOps -/
namespace Mine
set_option maxRecDepth 100000
set_option maxHeartbeats 8000000
/-- a def of the text, called with vs, hands back R and leaves all as it stood -/
abbrev Says (f : Addr) (pre : Prop) (vs : List Value) (R : Tok → Value) : Prop :=
  ∀ (w : World) (mean : ExcName → Option Value) (mg mb : Str → Option Value) (news : List (Addr × Obj)),
    CbClaim Challenge.rw_pe0073_01.row.prog w (hd.heap_39 w.params) hd.view_39 (looseW hd.view_39 []) mean mg mb f news [] pre vs R
theorem t_and (a b : Int) (t u : Tok) : Says 40 True [.int a t, .int b u] (fun t => .int (Builtin.bitAnd a b) t) := by
  dsimp only [Says, CbClaim, CbLists, CbRet]; k_fill; intros; rename_i hret
  refine wpAny_call ?_
  w_strict (k_dflt cell_enter)
  k_steps
  all_goals cb_end hret
theorem t_or (a b : Int) (t u : Tok) : Says 68 True [.int a t, .int b u] (fun t => .int (Builtin.bitOr a b) t) := by
  dsimp only [Says, CbClaim, CbLists, CbRet]; k_fill; intros; rename_i hret
  refine wpAny_call ?_
  w_strict (k_dflt cell_enter)
  k_steps
  all_goals cb_end hret
theorem t_xor (a b : Int) (t u : Tok) : Says 89 True [.int a t, .int b u] (fun t => .int (Builtin.bitXor a b) t) := by
  dsimp only [Says, CbClaim, CbLists, CbRet]; k_fill; intros; rename_i hret
  refine wpAny_call ?_
  w_strict (k_dflt cell_enter)
  k_steps
  all_goals cb_end hret
theorem t_add (a b : Int) (t u : Tok) : Says 33 True [.int a t, .int b u] (fun t => .int (a + b) t) := by
  dsimp only [Says, CbClaim, CbLists, CbRet]; k_fill; intros; rename_i hret
  refine wpAny_call ?_
  w_strict (k_dflt cell_enter)
  k_steps
  all_goals cb_end hret
theorem t_sub (a b : Int) (t u : Tok) : Says 82 True [.int a t, .int b u] (fun t => .int (a - b) t) := by
  dsimp only [Says, CbClaim, CbLists, CbRet]; k_fill; intros; rename_i hret
  refine wpAny_call ?_
  w_strict (k_dflt cell_enter)
  k_steps
  all_goals cb_end hret
theorem t_inv (a : Int) (t : Tok) : Says 54 True [.int a t] (fun t => .int (Builtin.bitNot a) t) := by
  dsimp only [Says, CbClaim, CbLists, CbRet]; k_fill; intros; rename_i hret
  refine wpAny_call ?_
  w_strict (k_dflt cell_enter)
  k_steps
  all_goals cb_end hret
theorem t_truth (a : Int) (t : Tok) : Says 26 True [.int a t] (fun _ => .bool (decide (a ≠ 0))) := by
  dsimp only [Says, CbClaim, CbLists, CbRet]; k_fill; intros; rename_i hret
  refine wpAny_call ?_
  w_strict (k_dflt cell_enter)
  k_steps
  all_goals cb_end hret
local macro_rules | `(tactic| walk_at "binaryOp LShift int int") => `(tactic| (k_here; (rename 0 ≤ _ ∧ _ => hpre9); refine lshift_int hpre9.1 hpre9.2 ?_))
theorem t_lshift (a b : Int) (t u : Tok) : Says 61 (0 ≤ b ∧ (Builtin.Int.intBits a : Int) + b ≤ 2 ^ 27) [.int a t, .int b u] (fun t => .int (a * 2 ^ b.toNat) t) := by
  dsimp only [Says, CbClaim, CbLists, CbRet]; k_fill; intros; rename_i hret
  refine wpAny_call ?_
  w_strict (k_dflt cell_enter)
  k_steps
  all_goals cb_end hret
local macro_rules | `(tactic| walk_at "binaryOp RShift int int") => `(tactic| (k_here; (rename (0 : Int) ≤ _ => hpre9); refine rshift_int hpre9 ?_))
theorem t_rshift (a b : Int) (t u : Tok) : Says 75 (0 ≤ b) [.int a t, .int b u] (fun t => .int (a.fdiv (2 ^ b.toNat)) t) := by
  dsimp only [Says, CbClaim, CbLists, CbRet]; k_fill; intros; rename_i hret
  refine wpAny_call ?_
  w_strict (k_dflt cell_enter)
  k_steps
  all_goals cb_end hret
theorem t_floordiv3 (a : Int) (t u : Tok) : Says 47 True [.int a t, .int 3 u] (fun t => .int (a.fdiv 3) t) := by
  dsimp only [Says, CbClaim, CbLists, CbRet]; k_fill; intros; rename_i hret
  refine wpAny_call ?_
  w_strict (k_dflt cell_enter)
  k_steps
  all_goals cb_end hret
end Mine
/-! PePiece -/
namespace Mine
local macro_rules | `(tactic| walk_at "no such key 0") => `(tactic| fail "none")
local macro_rules | `(tactic| walk_at "no such key 1") => `(tactic| fail "none")
set_option maxRecDepth 100000
set_option maxHeartbeats 8000000
abbrev tupS2 (x y : Str) (t u : Tok) (c : Nat) : Obj := { cls := .type "tuple", data := .seq #[.str x t, .str y u] c }
abbrev SaysPair (f : Addr) (vs : List Value) (x y : Str) : Prop :=
  ∀ (w : World) (mean : ExcName → Option Value) (mg mb : Str → Option Value) (news : List (Addr × Obj)) (dp un : Nat) (gd : Option (List Code)) (cn : Str) (cs : Scope) (a : Addr) (ccd : Value) (cl : List (Str × Addr)) (outer : List Env) (A₀ : Around) (base h₀ : Heap) (L : Addr) (m : Str → Option Value) (s : Shared) (Q E : Value → Shared → Prop),
    Below A₀ base outer h₀ → Fr h₀ L s.heap m → (hd.heap_39 w.params).In h₀ → News h₀ L s.heap news → Top hd.view_39 (looseW hd.view_39 []) mean mg mb h₀ → cs.kind = .function →
    dp + 1 < recursionLimit → un + 8 < cLine →
    (∀ (D : Addr) (t u : Tok) (c : Nat) (h' : Heap) (tk' : Nat), Fr h₀ L h' m → News h₀ L h' ((D, tupS2 x y t u c) :: news) → AllLt D news → Q (.ref D) { s with heap := h', toks := tk' }) →
      wpAny (model Challenge.rw_pe0073_01.row.prog w) (ktrTop dp un gd cn cs L a ccd cl outer) (call (.ref f) vs) Q E s
theorem pair_end {h₀ h' : Heap} {L D : Addr} {m : Str → Option Value} {news : List (Addr × Obj)} {s : Shared} {Q : Value → Shared → Prop} {x y x' y' : Str} {t u : Tok} {c tk' : Nat}
    (hret : ∀ (D : Addr) (t u : Tok) (c : Nat) (h' : Heap) (tk' : Nat), Fr h₀ L h' m → News h₀ L h' ((D, tupS2 x y t u c) :: news) → AllLt D news → Q (.ref D) { s with heap := h', toks := tk' })
    (e1 : x' = x) (e2 : y' = y) (F : Fr h₀ L h' m) (N : News h₀ L h' ((D, tupS2 x' y' t u c) :: news)) (hl : ∀ p ∈ news, p.1 < D) : Q (.ref D) { s with heap := h', toks := tk' } := by
  subst e1; subst e2
  exact hret D t u c h' tk' F N (allLt_of hl)
def some_ (n : Int) : Str := Txt.mul (Str.ofString "\\") (1 + (n.fdiv 8).fmod 3)
theorem some_len (n : Int) : (Txt.mul (Str.ofString "\\") (1 + (n.fdiv 8).fmod 3)).length ≤ 3 := by
  have h1 := Int.fmod_nonneg_of_pos (n.fdiv 8) (b := 3) (by decide)
  have h2 := Int.fmod_lt_of_pos (n.fdiv 8) (b := 3) (by decide)
  generalize (n.fdiv 8).fmod 3 = k at h1 h2
  have : k = 0 ∨ k = 1 ∨ k = 2 := by omega
  rcases this with rfl | rfl | rfl <;> decide +kernel
def pieceW (n : Int) (b : Bool) : Str :=
  if n.fmod 8 = 2 then Txt.item (Str.ofString " \t") ((n.fdiv 8).fmod 2)
  else if n.fmod 8 = 6 then Txt.item (Str.ofString "a'=;") ((n.fdiv 8).fmod 4)
  else if n.fmod 8 = 7 then { cps := #[(19968 + (n.fdiv 8).fmod 20000).toNat] }
  else if n.fmod 8 = 1 then Str.ofString "\""
  else if b = true then
    if n.fmod 8 = 0 then Str.ofString ","
    else if n.fmod 8 = 3 then some_ n ++ some_ n
    else if n.fmod 8 = 4 then Str.ofString "\\\""
    else Str.ofString "\\" ++ Txt.item (Str.ofString ", a'") ((n.fdiv 8).fmod 4)
  else if n.fmod 8 = 0 then Str.ofString ","
  else if n.fmod 8 = 3 then some_ n ++ Str.ofString ","
  else if n.fmod 8 = 4 then some_ n ++ Str.ofString "z"
  else Str.ofString "\""
def pieceK (n : Int) (b : Bool) : Str :=
  if n.fmod 8 = 2 then Txt.item (Str.ofString " \t") ((n.fdiv 8).fmod 2)
  else if n.fmod 8 = 6 then Txt.item (Str.ofString "a'=;") ((n.fdiv 8).fmod 4)
  else if n.fmod 8 = 7 then { cps := #[(19968 + (n.fdiv 8).fmod 20000).toNat] }
  else if n.fmod 8 = 1 then Str.ofString "\""
  else if b = true then
    if n.fmod 8 = 0 then Str.ofString ","
    else if n.fmod 8 = 3 then some_ n
    else if n.fmod 8 = 4 then Str.ofString "\""
    else Txt.item (Str.ofString ", a'") ((n.fdiv 8).fmod 4)
  else if n.fmod 8 = 0 then Str.ofString ""
  else if n.fmod 8 = 3 then some_ n
  else if n.fmod 8 = 4 then some_ n ++ Str.ofString "z"
  else Str.ofString "\""
theorem add_some1 {prog : Program} {w : World} {A : Around} {E : Value → Shared → Prop} {s : Shared} {Q : Value → Shared → Prop} {n : Int} {y : Str} {t u : Tok} (hy : y.length ≤ 3)
    (h : ∀ t' tk, Q (.str (Txt.mul (Str.ofString "\\") (1 + (n.fdiv 8).fmod 3) ++ y) t') { s with toks := tk }) :
    wpAny (model prog w) A (binaryOp .Add (.str (Txt.mul (Str.ofString "\\") (1 + (n.fdiv 8).fmod 3)) t) (.str y u)) Q E s :=
  PyProof.Rows.add_str h (by have := some_len n; rw [sizeLine_eq]; omega)
local macro_rules | `(tactic| walk_at "binaryOp Add str str") => `(tactic| (k_here; refine add_some1 (by first | exact some_len _ | decide +kernel) ?_; intro _ _))
theorem t_piece (n : Int) (b : Bool) (t : Tok) : SaysPair 96 [.int n t, .bool b] (pieceW n b) (pieceK n b) := by
  dsimp only [SaysPair]; k_fill; intros; rename_i hret
  refine wpAny_call ?_
  w_strict (k_dflt cell_enter)
  k_steps
  all_goals (refine pair_end hret ?_ ?_ (by k_asm) (by assumption) (by assumption))
  all_goals (simp_all [pieceW, pieceK, some_]; done)
end Mine
/-! PeComp -/
namespace Mine
set_option maxRecDepth 100000
section
variable {prog : Program} {w : World} {A : Around} {h₀ : Heap} {L : Addr} {m : Str → Option Value} {env : Env} {elt : Expr} {x : Str} {scope : Scope} {cl : List (Str × Addr)}
theorem strs_at {vs : List Value} {xs : List Str} (h : StrsAre vs xs) : ∀ (i : Nat) (v : Value), vs[i]? = some v → ∃ z t, v = Value.str z t ∧ xs[i]? = some z := by
  induction h with
  | nil => intro i v e; simp at e
  | cons z t r ih =>
    intro i v e
    cases i with
    | zero => simp at e; exact ⟨z, t, e.symm, by simp⟩
    | succ i => simp at e; simpa using ih i v e
theorem comp_rest {s : Shared} {S : List (Addr × Obj) → Prop} {Fin : List Value → List (Addr × Obj) → Prop} {news : List (Addr × Obj)} {vs : List Value} {xs : List Str} (g : Str → Str) (hi : StrsAre vs xs) (hb : ∀ z ∈ xs, z.length ≤ sizeLine) (hS : S news)
    (turn : ∀ (z : Str) (t : Tok) I oI C oC D m₂ ys h tk (E' : Value → Shared → Prop), z.length ≤ sizeLine → LCg.NsObj oC m₂ → m₂ x = some (.str z t) → Fr h₀ L h m → News h₀ L h ((I, oI) :: (C, oC) :: (D, LCg.lst ys) :: news) →
      wpAny (model prog w) A (eval elt (compEnvC scope cl C env)) (fun y s₂ => ∃ t' tk', y = .str (g z) t' ∧ s₂ = { s with heap := h, toks := tk' }) E' { s with heap := h, toks := tk })
    (fin : ∀ ys, StrsAre ys (xs.map g) → Fin ys news) : LCg.CompRest prog w A h₀ L m env elt x scope cl s S (fun i v => vs.toArray[i]? = some v) Fin vs.toArray.size 0 [] news := by
  have hlen : vs.length = xs.length := hi.length
  have key : ∀ (j i : Nat) (ys : List Value), i + j = xs.length → StrsAre ys ((xs.take i).map g) → LCg.CompRest prog w A h₀ L m env elt x scope cl s S (fun i v => vs.toArray[i]? = some v) Fin j i ys news := by
    intro j
    induction j with
    | zero =>
      intro i ys hi' hy
      have e : i = xs.length := by omega
      subst e
      rw [List.take_length] at hy
      exact LCg.CompRest.zero (fin ys hy)
    | succ j ih =>
      intro i ys hi' hy
      refine LCg.CompRest.succ ?_
      intro v I oI C oC D m₂ h tk E' hv hC hx F N off ne
      obtain ⟨z, t, hv', hz⟩ := strs_at hi i v (by simpa using hv)
      rw [hv'] at hx
      refine wpAny_mono (turn z t I oI C oC D m₂ ys h tk E' (hb z (List.mem_of_getElem? hz)) hC hx F N) (fun y s₂ hq => ?_) fun _ _ e => e
      obtain ⟨t', tk', rfl, rfl⟩ := hq
      refine ⟨h, tk', news, rfl, F, N, off, hS, ?_⟩
      refine ih (i + 1) _ (by omega) ?_
      rw [List.take_add_one, hz]
      simpa using kct_snoc hy
  have e0 : vs.toArray.size = xs.length := by rw [List.size_toArray]; exact hlen
  rw [e0]
  exact key xs.length 0 [] (by omega) (by simp only [List.take_zero, List.map_nil]; exact .nil)
theorem comp_src {s₁ : Shared} {Q : Value → Shared → Prop} {ax : Addr} {k : Nat} {news : List (Addr × Obj)} {vs : List Value} {xs : List Str} (g : Str → Str) (hh : A.handled = none) (F : Fr h₀ L s₁.heap m) (N : News h₀ L s₁.heap news) (hm : (ax, listOf vs.toArray k) ∈ news)
    (hi : StrsAre vs xs) (hsz : xs.length ≤ sizeLine) (hb : ∀ z ∈ xs, z.length ≤ sizeLine)
    (turn : ∀ (s : Shared) (z : Str) (t : Tok) I oI C oC D m₂ ys h tk (E' : Value → Shared → Prop), z.length ≤ sizeLine → LCg.NsObj oC m₂ → m₂ x = some (.str z t) → Fr h₀ L h m → News h₀ L h ((I, oI) :: (C, oC) :: (D, LCg.lst ys) :: news) →
      wpAny (model prog w) A (eval elt (compEnvC scope cl C env)) (fun y s₂ => ∃ t' tk', y = .str (g z) t' ∧ s₂ = { s with heap := h, toks := tk' }) E' { s with heap := h, toks := tk })
    (fin : ∀ ys D h tk, StrsAre ys (xs.map g) → Fr h₀ L h m → News h₀ L h ((D, listOf ys.toArray ys.length) :: news) → LCg.Off1 D news → Q (.ref D) { s₁ with heap := h, toks := tk }) :
    LCg.CompSrc prog w A h₀ L m env elt x scope cl (fun s₂ => LCg.FinE h₀ L m s₂ Q) (.ref ax) s₁ := by
  have e0 : vs.toArray.size ≤ sizeLine := by rw [List.size_toArray, hi.length]; exact hsz
  refine LCg.CompSrc.ledger hh F N hm e0 fun g' => ?_
  refine comp_rest g hi hb (.inr ⟨_, hm, rfl, _, rfl⟩) (fun z t I oI C oC D m₂ ys h tk E' hz hC hx F' N' => ?_) fun ys hy D h tk F' N' o1 => ?_
  · exact turn { s₁ with heap := g' } z t I oI C oC D m₂ ys h tk E' hz hC hx F' N'
  · exact fin ys D h tk hy F' N' o1
end
end Mine
/-! PeHdrP -/
namespace Mine
set_option maxRecDepth 100000
set_option maxHeartbeats 8000000
abbrev HS := Str × List Str × Str × Bool
def hcut (b : Bool) (n : Int) : Bool := !b && (n.fmod 8 == 0 || n.fmod 8 == 3)
def hflip (b : Bool) (n : Int) : Bool := n.fmod 8 == 1 || (n.fmod 8 == 5 && !b)
def hstep (st : HS) (n : Int) : HS :=
  (st.1 ++ pieceW n st.2.2.2,
   if hcut st.2.2.2 n = true then st.2.1 ++ [st.2.2.1 ++ pieceK n st.2.2.2] else st.2.1,
   if hcut st.2.2.2 n = true then Str.ofString "" else st.2.2.1 ++ pieceK n st.2.2.2,
   if hflip st.2.2.2 n = true then !st.2.2.2 else st.2.2.2)
def hfold (ns : List Int) : HS := ns.foldl hstep (Str.ofString "", [], Str.ofString "", false)
def HInv (pre : List Int) (text : Str) (items : List Str) (part : Str) (inside : Bool) : Prop :=
  (text, items, part, inside) = hfold pre ∧ text.length ≤ 6 * pre.length ∧ part.length ≤ 6 * pre.length ∧ items.length ≤ pre.length ∧ ∀ z ∈ items, z.length ≤ 6 * pre.length
theorem hinv_nil : HInv [] (Str.ofString "") [] (Str.ofString "") false := ⟨rfl, by decide, by decide, by decide, by simp⟩
theorem one_len (x : Str) (i : Int) : (Txt.item x i).length = 1 := rfl
theorem lits_len : (Str.ofString ",").length = 1 ∧ (Str.ofString "z").length = 1 ∧ (Str.ofString "\\").length = 1 := by decide +kernel
theorem pieceW_len (n : Int) (b : Bool) : (pieceW n b).length ≤ 6 := by
  have h := some_len n
  have e := lits_len
  unfold pieceW some_
  repeat' split
  all_goals (try simp only [Str.length_append, one_len] at *)
  all_goals first | decide | exact Nat.le_add_left 1 5 | omega
theorem pieceK_len (n : Int) (b : Bool) : (pieceK n b).length ≤ 6 := by
  have h := some_len n
  have e := lits_len
  unfold pieceK some_
  repeat' split
  all_goals (try simp only [Str.length_append, one_len] at *)
  all_goals first | decide | exact Nat.le_add_left 1 5 | omega
theorem hinv_step {pre : List Int} {n : Int} {text part part' : Str} {items items' : List Str} {inside inside' : Bool} (h : HInv pre text items part inside)
    (e1 : items' = if hcut inside n = true then items ++ [part ++ pieceK n inside] else items) (e2 : part' = if hcut inside n = true then Str.ofString "" else part ++ pieceK n inside) (e3 : inside' = if hflip inside n = true then !inside else inside) :
    HInv (pre ++ [n]) (text ++ pieceW n inside) items' part' inside' := by
  obtain ⟨h1, h2, h3, h4, h5⟩ := h
  have w1 := pieceW_len n inside
  have w2 := pieceK_len n inside
  refine ⟨?_, ?_, ?_, ?_, ?_⟩
  · unfold hfold
    rw [List.foldl_append]
    show _ = hstep (hfold pre) n
    rw [← h1, e1, e2, e3]
    rfl
  · rw [Str.length_append, List.length_append, List.length_singleton]; omega
  · rw [e2, List.length_append, List.length_singleton]
    split
    · show 0 ≤ _; omega
    · rw [Str.length_append]; omega
  · rw [e1, List.length_append, List.length_singleton]
    split
    · rw [List.length_append, List.length_singleton]; omega
    · omega
  · rw [e1, List.length_append, List.length_singleton]
    intro z hz
    split at hz
    · rcases List.mem_append.mp hz with hz | hz
      · have := h5 z hz; omega
      · rw [List.mem_singleton.mp hz, Str.length_append]; omega
    · have := h5 z hz; omega
theorem hsizeW {pre post ns : List Int} {n : Int} {text part : Str} {items : List Str} {inside : Bool} (h : HInv pre text items part inside) (e : ns = pre ++ n :: post) (hl : ns.length ≤ 40) (k : Int) (b : Bool) : text.length + (pieceW k b).length ≤ sizeLine := by
  have w1 := pieceW_len k b
  have := h.2.1
  subst e
  rw [List.length_append, List.length_cons] at hl
  rw [sizeLine_eq]; omega
theorem hsizeK {pre post ns : List Int} {n : Int} {text part : Str} {items : List Str} {inside : Bool} (h : HInv pre text items part inside) (e : ns = pre ++ n :: post) (hl : ns.length ≤ 40) (k : Int) (b : Bool) : part.length + (pieceK k b).length ≤ sizeLine := by
  have w1 := pieceK_len k b
  have := h.2.2.1
  subst e
  rw [List.length_append, List.length_cons] at hl
  rw [sizeLine_eq]; omega
theorem hsizeI {pre post ns : List Int} {n : Int} {text part : Str} {items : List Str} {inside : Bool} (h : HInv pre text items part inside) (e : ns = pre ++ n :: post) (hl : ns.length ≤ 40) : items.length ≤ 40 := by
  have := h.2.2.2.1
  subst e
  rw [List.length_append, List.length_cons] at hl
  omega
theorem hsizeE {ns : List Int} {text part : Str} {items : List Str} {inside : Bool} (h : HInv ns text items part inside) (hl : ns.length ≤ 40) : text.length ≤ 240 ∧ part.length ≤ 240 ∧ items.length ≤ 40 ∧ ∀ z ∈ items, z.length ≤ 240 := by
  obtain ⟨h1, h2, h3, h4, h5⟩ := h
  refine ⟨by omega, by omega, by omega, fun z hz => ?_⟩
  have := h5 z hz
  omega
theorem hsizeS {ns : List Int} {text part : Str} {items : List Str} {inside : Bool} (h : HInv ns text items part inside) (hl : ns.length ≤ 40) : text.length + (Str.ofString "\\").length ≤ sizeLine := by
  have h1 := hsizeE h hl
  have h2 := lits_len
  rw [sizeLine_eq]; omega
theorem hsizeA {ns : List Int} {text part : Str} {items : List Str} {inside : Bool} {us : List Value} (h : HInv ns text items part inside) (hl : ns.length ≤ 40) (hs : StrsAre us items) : us.toArray.size ≤ sizeLine := by
  have h1 := hsizeE h hl
  rw [List.size_toArray, hs.length, sizeLine_eq]; omega
theorem hsizeB {pre post ns : List Int} {n : Int} {text part : Str} {items : List Str} {inside : Bool} {us : List Value} (h : HInv pre text items part inside) (e : ns = pre ++ n :: post) (hl : ns.length ≤ 40) (hs : StrsAre us items) : us.toArray.size ≤ sizeLine :=
  hsizeA h (by subst e; rw [List.length_append, List.length_cons] at hl; omega) hs
theorem hcompA {ns : List Int} {text part : Str} {items : List Str} {inside : Bool} (h : HInv ns text items part inside) (hl : ns.length ≤ 40) : items.length ≤ sizeLine := by
  have h1 := hsizeE h hl
  rw [sizeLine_eq]; omega
theorem hcompB {ns : List Int} {text part : Str} {items : List Str} {inside : Bool} (h : HInv ns text items part inside) (hl : ns.length ≤ 40) : ∀ z ∈ items, z.length ≤ sizeLine := by
  have h1 := hsizeE h hl
  intro z hz
  have := h1.2.2.2 z hz
  rw [sizeLine_eq]; omega
theorem hcompA' {ns : List Int} {text part : Str} {items : List Str} {inside : Bool} (h : HInv ns text items part inside) (hl : ns.length ≤ 40) : (items ++ [part]).length ≤ sizeLine := by
  have h1 := hsizeE h hl
  rw [List.length_append, List.length_singleton, sizeLine_eq]; omega
theorem hcompB' {ns : List Int} {text part : Str} {items : List Str} {inside : Bool} (h : HInv ns text items part inside) (hl : ns.length ≤ 40) : ∀ z ∈ items ++ [part], z.length ≤ sizeLine := by
  have h1 := hsizeE h hl
  intro z hz
  rcases List.mem_append.mp hz with hz | hz
  · exact hcompB h hl z hz
  · rw [List.mem_singleton.mp hz, sizeLine_eq]; omega
section
variable {pre : List Int} {n : Int} {text part : Str} {items : List Str} {inside : Bool}
theorem hw1 (h : HInv pre text items part inside) (hb : inside = true) (hr : n.fmod 8 = 1) : HInv (pre ++ [n]) (text ++ pieceW n inside) items (part ++ pieceK n inside) (!inside) := by
  refine hinv_step h ?_ ?_ ?_ <;> simp [hcut, hflip, hb, hr]
theorem hw2 (h : HInv pre text items part inside) (hb : inside = true) (h1 : n.fmod 8 ≠ 1) : HInv (pre ++ [n]) (text ++ pieceW n inside) items (part ++ pieceK n inside) inside := by
  refine hinv_step h ?_ ?_ ?_ <;> simp [hcut, hflip, hb, h1]
theorem hany {n : Int} : ([0, 3].any fun x => x == n.fmod 8) = (n.fmod 8 == 0 || n.fmod 8 == 3) := by
  simp only [List.any_cons, List.any_nil, Bool.or_false]
  rw [Bool.eq_iff_iff]; simp only [Bool.or_eq_true, beq_iff_eq]; omega
theorem hw4 (h : HInv pre text items part inside) (hb : inside = false) (ha : ([0, 3].any fun x => x == n.fmod 8) = true) : HInv (pre ++ [n]) (text ++ pieceW n inside) (items ++ [part ++ pieceK n inside]) (Str.ofString "") inside := by
  rw [hany] at ha
  have h1 : n.fmod 8 ≠ 1 := by simp at ha; omega
  have h5 : n.fmod 8 ≠ 5 := by simp at ha; omega
  refine hinv_step h ?_ ?_ ?_
  · rw [show hcut inside n = true by simp only [hcut, hb, ha]; rfl]; rfl
  · rw [show hcut inside n = true by simp only [hcut, hb, ha]; rfl]; rfl
  · simp [hflip, h1, h5]
theorem hw4a {P : Prop} (ha : ([0, 3].any fun x => x == n.fmod 8) = true) (h1 : n.fmod 8 = 1) : P := by
  rw [hany, h1] at ha; simp at ha
theorem hw4b {P : Prop} (ha : ([0, 3].any fun x => x == n.fmod 8) = true) (h1 : n.fmod 8 = 5) : P := by
  rw [hany, h1] at ha; simp at ha
theorem hw5 (h : HInv pre text items part inside) (hb : inside = false) (ha : ([0, 3].any fun x => x == n.fmod 8) = false) (hr : n.fmod 8 = 1) : HInv (pre ++ [n]) (text ++ pieceW n inside) items (part ++ pieceK n inside) (!inside) := by
  rw [hany] at ha
  refine hinv_step h ?_ ?_ ?_ <;> simp [hcut, hflip, hb, hr]
theorem hw6 (h : HInv pre text items part inside) (hb : inside = false) (ha : ([0, 3].any fun x => x == n.fmod 8) = false) (hr : n.fmod 8 = 5) : HInv (pre ++ [n]) (text ++ pieceW n inside) items (part ++ pieceK n inside) (!inside) := by
  refine hinv_step h ?_ ?_ ?_ <;> simp [hcut, hflip, hb, hr]
theorem hw7 (h : HInv pre text items part inside) (hb : inside = false) (ha : ([0, 3].any fun x => x == n.fmod 8) = false) (h1 : n.fmod 8 ≠ 1) (h5 : n.fmod 8 ≠ 5) : HInv (pre ++ [n]) (text ++ pieceW n inside) items (part ++ pieceK n inside) inside := by
  rw [hany] at ha
  simp only [Bool.or_eq_false_iff, beq_eq_false_iff_ne, ne_eq] at ha
  refine hinv_step h ?_ ?_ ?_ <;> simp [hcut, hflip, hb, h1, h5, ha.1, ha.2]
end
def hdrText (ns : List Int) (lone : Bool) : Str := if (hfold ns).2.2.2 = true then if lone = true then (hfold ns).1 ++ Str.ofString "\\" else (hfold ns).1 else (hfold ns).1
def hdrItems (ns : List Int) : List Str := if (hfold ns).2.2.1 = Str.ofString "" then (hfold ns).2.1 else (hfold ns).2.1 ++ [(hfold ns).2.2.1]
def stripBT (x : Str) : Str := Txt.stripChars x (Str.ofString " \t")
section
variable {ns : List Int} {text part : Str} {items : List Str} {inside lone : Bool}
theorem hx1 (h : HInv ns text items part inside) (hb : inside = true) (hl : lone = true) : text ++ Str.ofString "\\" = hdrText ns lone := by
  unfold hdrText; rw [← h.1]; simp only [hb, hl, if_true]
theorem hx2 (h : HInv ns text items part inside) (hb : inside = true) (hl : lone = false) : text = hdrText ns lone := by
  unfold hdrText; rw [← h.1]; simp only [hb, hl, if_true, Bool.false_eq_true, if_false]
theorem hx3 (h : HInv ns text items part inside) (hb : inside = false) : text = hdrText ns lone := by
  unfold hdrText; rw [← h.1]; simp only [hb, Bool.false_eq_true, if_false]
theorem hy1 (h : HInv ns text items part inside) (hp : (part != Str.ofString "") = true) : items ++ [part] = hdrItems ns := by
  have hp' : part ≠ Str.ofString "" := by simpa using hp
  unfold hdrItems; rw [← h.1]; simp only [if_neg hp']
theorem hy2 (h : HInv ns text items part inside) (hp : (part != Str.ofString "") = false) : items = hdrItems ns := by
  have hp' : part = Str.ofString "" := by simpa using hp
  unfold hdrItems; rw [← h.1]; simp only [if_pos hp']
end
end Mine
/-! PeHeader -/
namespace Mine
set_option maxRecDepth 100000
set_option maxHeartbeats 8000000
theorem piece_use {n : Int} {b : Bool} {tn : Tok} {w : World} {mean : ExcName → Option Value} {mg mb : Str → Option Value} {news : List (Addr × Obj)} {dp un : Nat} {gd : Option (List Code)} {cn : Str} {cs : Scope} {a : Addr} {ccd : Value} {cl : List (Str × Addr)} {outer : List Env} {A₀ : Around} {base h₀ : Heap} {L : Addr} {m : Str → Option Value} {s : Shared} {Q E : Value → Shared → Prop}
    (k1 : Below A₀ base outer h₀) (k2 : Fr h₀ L s.heap m) (k3 : (hd.heap_39 w.params).In h₀) (k4 : News h₀ L s.heap news) (k5 : Top hd.view_39 (looseW hd.view_39 []) mean mg mb h₀) (k6 : cs.kind = .function)
    (k7 : dp + 1 < recursionLimit) (k8 : un + 8 < cLine)
    (h : ∀ (D : Addr) (t u : Tok) (c : Nat) (h' : Heap) (tk' : Nat), Fr h₀ L h' m → News h₀ L h' ((D, tupS2 (pieceW n b) (pieceK n b) t u c) :: news) → AllLt D news → Q (.ref D) { s with heap := h', toks := tk' }) :
      wpAny (model Challenge.rw_pe0073_01.row.prog w) (ktrTop dp un gd cn cs L a ccd cl outer) (call (.ref 96) [.int n tn, .bool b]) Q E s :=
  t_piece n b tn w mean mg mb news dp un gd cn cs a ccd cl outer A₀ base h₀ L m s Q E k1 k2 k3 k4 k5 k6 k7 k8 h
abbrev tupSR (x : Str) (r : Addr) (t : Tok) (c : Nat) : Obj := { cls := .type "tuple", data := .seq #[.str x t, .ref r] c }
local macro_rules | `(tactic| walk_at "call ref") => `(tactic| (k_here; (with_reducible show wpAny _ _ (call (Value.ref 96) _) _ _ _); k_dflt (refine' piece_use ?k1 ?k2 ?k3 ?k4 ?k5 ?k6 ?k7 ?k8 ?_; (case k1 => k_asm); (case k2 => k_asm); (case k3 => k_asm); (case k4 => k_asm); (case k5 => k_asm); (case k6 => first | exact rfl | assumption); (case k7 => ktr_room); (case k8 => ktr_units); k_whole); intro D' t' u' c' h' tk' F' N' l1; (try dsimp only); (try simp only [AllLt, and_true] at l1); (try k_fold)))
local macro_rules | `(tactic| walk_at "inplaceOp Add str str") => `(tactic| (k_here; refine PyProof.Rows.iadd_str ?_ (by first | exact hsizeW (by assumption) (by assumption) (by assumption) _ _ | exact hsizeK (by assumption) (by assumption) (by assumption) _ _ | exact hsizeS (by assumption) (by assumption)); intro _ _))
local macro_rules | `(tactic| walk_at "call builtin:list.append") => `(tactic| (k_here; (with_reducible show wpAny _ _ (call (Value.builtin _) [Value.ref _, _]) _ _ _); k_dflt (refine' append_K ?k1 ?k2 ?k3 ?_ ?z; (case k1 => k_asm); (case k2 => k_asm); (case k3 => k_upd); (case z => first | exact hsizeB (by assumption) (by assumption) (by assumption) (by assumption) | exact hsizeA (by assumption) (by assumption) (by assumption)); k_whole); intro h' F' N'; (try k_sweep)))
local macro_rules | `(tactic| walk_at "eval ListComp") => `(tactic| (k_here; k_dflt (refine LCg.ListComp_U (F₀ := by k_asm) (by with_unfolding_all rfl) (by decide) (by rfl) (by decide) (by rfl) ?_)))
local macro_rules | `(tactic| walk_at "CompSrc") => `(tactic| (k_here; (rename News _ _ _ _ => nE'); (try simp only [List.push_toArray] at nE'); k_dflt (refine comp_src stripBT (by rfl) (by k_asm) nE' (by k_memK) (by first | assumption | exact StrsAre.append' (by assumption) (.cons _ _ .nil)) (by first | exact hcompA (by assumption) (by assumption) | exact hcompA' (by assumption) (by assumption)) (by first | exact hcompB (by assumption) (by assumption) | exact hcompB' (by assumption) (by assumption)) (fun s' z' t' I' oI' C' oC' D' m' ys' h' tk' E' hz' hC' hx' F' N' => ?_) (fun ys' D' h' tk' hS' F' N' o1' => ?_)); (all_goals (try simp only [LCg.Off1, and_true] at o1')); (all_goals (try dsimp only))))
local macro_rules | `(tactic| walk_at "call builtin:str.strip") => `(tactic| (k_here; refine SC.stripChars (fun t' k' => ?_) (by assumption)))
theorem header_end {h₀ h' : Heap} {L D r l l' : Addr} {m : Str → Option Value} {rest : List (Addr × Obj)} {o' : Obj} {s : Shared} {Q : Value → Shared → Prop} {x X : Str} {xs Xs : List Str} {vs rs : List Value} {t : Tok} {c c' c₀ tk' : Nat}
    (hret : ∀ (D r : Addr) (t : Tok) (rs : List Value) (c c' : Nat) (h' : Heap) (tk' : Nat), Fr h₀ L h' m → News h₀ L h' ((D, tupSR X r t c) :: (r, listOf rs.toArray c') :: (l, listOf vs.toArray c₀) :: rest) → StrsAre rs (Xs.map stripBT) → Q (.ref D) { s with heap := h', toks := tk' })
    (F : Fr h₀ L h' m) (N : News h₀ L h' ((D, tupSR x r t c) :: (r, listOf rs.toArray c') :: (l', o') :: (l, listOf vs.toArray c₀) :: rest)) (hS : StrsAre rs (xs.map stripBT)) (ex : x = X) (ey : xs = Xs) : Q (.ref D) { s with heap := h', toks := tk' } := by
  subst ex; subst ey
  refine hret D r t rs c c' h' tk' F (fun p hp => N p ?_) hS
  rcases List.mem_cons.mp hp with rfl | hp
  · exact .head _
  · rcases List.mem_cons.mp hp with rfl | hp
    · exact .tail _ (.head _)
    · exact .tail _ (.tail _ (.tail _ hp))
theorem t_header (lone : Bool) (w : World) (mean : ExcName → Option Value) (mg mb : Str → Option Value) (rest : List (Addr × Obj)) (vs : List Value) (ns : List Int) (l : Addr) (c₀ : Nat) (dp un : Nat) (gd : Option (List Code)) (cn : Str) (cs : Scope) (a : Addr) (ccd : Value) (cl : List (Str × Addr)) (outer : List Env) (A₀ : Around) (base h₀ : Heap) (L : Addr) (m : Str → Option Value) (s : Shared) (Q E : Value → Shared → Prop) :
    Below A₀ base outer h₀ → Fr h₀ L s.heap m → (hd.heap_39 w.params).In h₀ → News h₀ L s.heap ((l, listOf vs.toArray c₀) :: rest) → Top hd.view_39 (looseW hd.view_39 []) mean mg mb h₀ → cs.kind = .function →
    IntsAre vs ns → ns.length ≤ 40 → AllLt l rest → dp + 2 < recursionLimit → un + 16 < cLine →
    (∀ (D r : Addr) (t : Tok) (rs : List Value) (c c' : Nat) (h' : Heap) (tk' : Nat), Fr h₀ L h' m → News h₀ L h' ((D, tupSR (hdrText ns lone) r t c) :: (r, listOf rs.toArray c') :: (l, listOf vs.toArray c₀) :: rest) → StrsAre rs ((hdrItems ns).map stripBT) → Q (.ref D) { s with heap := h', toks := tk' }) →
      wpAny (model Challenge.rw_pe0073_01.row.prog w) (ktrTop dp un gd cn cs L a ccd cl outer) (call (.ref 101) [.ref l, .bool lone]) Q E s := by
  k_with_none
  w_top off
  k_fill; intros; rename_i hret
  k_with "pyIter ref" => (k_of "n" => k_state (fun pre text items part inside => HInv pre text items part inside) "text" "items$" "part" "inside")
  k_with "state" => first | exact hinv_nil | exact hw1 (by assumption) (by assumption) (by assumption) | exact hw2 (by assumption) (by assumption) (by assumption) | exact hw4a (by assumption) (by assumption) | exact hw4b (by assumption) (by assumption) | exact hw4 (by assumption) (by assumption) (by assumption) | exact hw5 (by assumption) (by assumption) (by assumption) (by assumption) | exact hw6 (by assumption) (by assumption) (by assumption) (by assumption) | exact hw7 (by assumption) (by assumption) (by assumption) (by assumption) (by assumption)
  refine wpAny_call ?_
  w_strict (k_dflt cell_enter)
  k_steps
  all_goals (refine header_end hret (by k_asm) (by assumption) (by assumption) ?_ ?_)
  all_goals first | exact hx1 (by assumption) (by assumption) (by assumption) | exact hx2 (by assumption) (by assumption) (by assumption) | exact hx3 (by assumption) (by assumption) | exact hy1 (by assumption) (by assumption) | exact hy2 (by assumption) (by assumption)
end Mine
/-! PeParP -/
namespace Mine
set_option maxRecDepth 100000
abbrev PS := List Str × Str × Bool × Bool
def pstep (st : PS) (c : Nat) : PS :=
  if st.2.2.1 = true then (st.1, st.2.1 ++ ⟨#[c]⟩, false, st.2.2.2)
  else if st.2.2.2 = true then
    if c = 92 then (st.1, st.2.1, true, st.2.2.2)
    else if c = 34 then (st.1, st.2.1 ++ ⟨#[c]⟩, st.2.2.1, false)
    else (st.1, st.2.1 ++ ⟨#[c]⟩, st.2.2.1, st.2.2.2)
  else if c = 44 then (st.1 ++ [st.2.1], Str.ofString "", st.2.2.1, st.2.2.2)
  else if c = 34 then (st.1, st.2.1 ++ ⟨#[c]⟩, st.2.2.1, true)
  else (st.1, st.2.1 ++ ⟨#[c]⟩, st.2.2.1, st.2.2.2)
def pfold (l : List Nat) : PS := l.foldl pstep ([], Str.ofString "", false, false)
def PInv (pre : List Int) (res : List Str) (part : Str) (e q : Bool) : Prop :=
  (res, part, e, q) = pfold (pre.map Int.toNat) ∧ part.length ≤ pre.length ∧ res.length ≤ pre.length ∧ ∀ z ∈ res, z.length ≤ pre.length
theorem pinv_nil : PInv [] [] (Str.ofString "") false false := ⟨rfl, by decide, by decide, by simp⟩
theorem one_eq {c : Nat} {s : Str} (d : Nat) (hs : s = ⟨#[d]⟩) : (((⟨#[c]⟩ : Str) == s) = true) ↔ c = d := by
  subst hs
  constructor
  · intro h
    have := eq_of_beq h
    simpa using this
  · rintro rfl; simp
theorem bs_is : Str.ofString "\\" = ⟨#[92]⟩ := by decide +kernel
theorem dq_is : Str.ofString "\"" = ⟨#[34]⟩ := by decide +kernel
theorem cm_is : Str.ofString "," = ⟨#[44]⟩ := by decide +kernel
theorem eqT {c : Nat} {s : Str} {d : Nat} (hs : s = ⟨#[d]⟩) (h : ((⟨#[c]⟩ : Str) == s) = true) : c = d := (one_eq d hs).mp h
theorem eqF {c : Nat} {s : Str} {d : Nat} (hs : s = ⟨#[d]⟩) (h : ((⟨#[c]⟩ : Str) == s) = false) : c ≠ d := fun e => by
  rw [(one_eq d hs).mpr e] at h; cases h
theorem pinv_snoc {pre : List Int} {c : Nat} {res res' : List Str} {part part' : Str} {e q e' q' : Bool} (h : PInv pre res part e q) (hs : (res', part', e', q') = pstep (res, part, e, q) c) : PInv (pre ++ [(c : Int)]) res' part' e' q' := by
  obtain ⟨h1, h2, h3, h4⟩ := h
  refine ⟨?_, ?_⟩
  · unfold pfold
    rw [List.map_append, List.foldl_append]
    show _ = pstep (pfold (pre.map Int.toNat)) (Int.toNat (c : Int))
    rw [← h1, Int.toNat_natCast]; exact hs
  · have l1 : (⟨#[c]⟩ : Str).length = 1 := rfl
    have l0 : (Str.ofString "").length = 0 := rfl
    rw [List.length_append, List.length_singleton]
    unfold pstep at hs
    dsimp only at hs
    have h4' : ∀ z ∈ res, z.length ≤ pre.length + 1 := fun z hz => Nat.le_succ_of_le (h4 z hz)
    have h5' : ∀ z ∈ res ++ [part], z.length ≤ pre.length + 1 := fun z hz => by
      rcases List.mem_append.mp hz with hz | hz
      · exact h4' z hz
      · rw [List.mem_singleton.mp hz]; omega
    repeat' split at hs
    all_goals (cases hs; (try simp only [Str.length_append, List.length_append, List.length_singleton, l1, l0]); refine ⟨by omega, by omega, ?_⟩; assumption)
section
variable {pre : List Int} {c : Nat} {res : List Str} {part : Str} {e q : Bool}
theorem pw1 (h : PInv pre res part e q) (he : e = true) : PInv (pre ++ [(c : Int)]) res (part ++ ⟨#[c]⟩) false q := by
  refine pinv_snoc h ?_; simp [pstep, he]
theorem pw2 (h : PInv pre res part e q) (he : e = false) (hq : q = true) (hc : ((⟨#[c]⟩ : Str) == Str.ofString "\\") = true) : PInv (pre ++ [(c : Int)]) res part true q := by
  have hc := eqT bs_is hc
  refine pinv_snoc h ?_; simp [pstep, he, hq, hc]
theorem pw3 (h : PInv pre res part e q) (he : e = false) (hq : q = true) (_ : ((⟨#[c]⟩ : Str) == Str.ofString "\\") = false) (hd : ((⟨#[c]⟩ : Str) == Str.ofString "\"") = true) : PInv (pre ++ [(c : Int)]) res (part ++ ⟨#[c]⟩) e false := by
  have hd := eqT dq_is hd
  refine pinv_snoc h ?_; simp [pstep, he, hq, hd]
theorem pw4 (h : PInv pre res part e q) (he : e = false) (hq : q = true) (hc : ((⟨#[c]⟩ : Str) == Str.ofString "\\") = false) (hd : ((⟨#[c]⟩ : Str) == Str.ofString "\"") = false) : PInv (pre ++ [(c : Int)]) res (part ++ ⟨#[c]⟩) e q := by
  have hc := eqF bs_is hc
  have hd := eqF dq_is hd
  refine pinv_snoc h ?_; simp [pstep, he, hq, hc, hd]
theorem pw5 (h : PInv pre res part e q) (he : e = false) (hq : q = false) (hc : ((⟨#[c]⟩ : Str) == Str.ofString ",") = true) : PInv (pre ++ [(c : Int)]) (res ++ [part]) (Str.ofString "") e q := by
  have hc := eqT cm_is hc
  refine pinv_snoc h ?_; simp [pstep, he, hq, hc]
theorem pw6 (h : PInv pre res part e q) (he : e = false) (hq : q = false) (_ : ((⟨#[c]⟩ : Str) == Str.ofString ",") = false) (hd : ((⟨#[c]⟩ : Str) == Str.ofString "\"") = true) : PInv (pre ++ [(c : Int)]) res (part ++ ⟨#[c]⟩) e true := by
  have hd := eqT dq_is hd
  refine pinv_snoc h ?_; simp [pstep, he, hq, hd]
theorem pw7 (h : PInv pre res part e q) (he : e = false) (hq : q = false) (hc : ((⟨#[c]⟩ : Str) == Str.ofString ",") = false) (hd : ((⟨#[c]⟩ : Str) == Str.ofString "\"") = false) : PInv (pre ++ [(c : Int)]) res (part ++ ⟨#[c]⟩) e q := by
  have hc := eqF cm_is hc
  have hd := eqF dq_is hd
  refine pinv_snoc h ?_; simp [pstep, he, hq, hc, hd]
end
theorem codes_nat (x : Str) : (KStt.codes x).map Int.toNat = x.cps.toList := by
  unfold KStt.codes
  rw [List.map_map]
  exact (List.map_congr_left (g := _root_.id) fun c _ => Int.toNat_natCast c).trans (List.map_id _)
theorem psizeP {pre post : List Int} {n : Int} {res : List Str} {part x : Str} {e q : Bool} (h : PInv pre res part e q) (hx : KStt.codes x = pre ++ n :: post) (hl : x.length ≤ 1000) (k : Nat) : part.length + (⟨#[k]⟩ : Str).length ≤ sizeLine := by
  have h2 := h.2.1
  have l1 : (⟨#[k]⟩ : Str).length = 1 := rfl
  have := congrArg List.length hx
  rw [KStt.codes_length, List.length_append, List.length_cons] at this
  rw [sizeLine_eq, l1]; omega
theorem psizeA {pre post : List Int} {n : Int} {res : List Str} {part x : Str} {e q : Bool} {us : List Value} (h : PInv pre res part e q) (hx : KStt.codes x = pre ++ n :: post) (hl : x.length ≤ 1000) (hs : StrsAre us res) : us.toArray.size ≤ sizeLine := by
  have h2 := h.2.2.1
  have := congrArg List.length hx
  rw [KStt.codes_length, List.length_append, List.length_cons] at this
  rw [List.size_toArray, hs.length, sizeLine_eq]; omega
theorem psizeE {x : Str} {res : List Str} {part : Str} {e q : Bool} (h : PInv (KStt.codes x) res part e q) (hl : x.length ≤ 1000) : part.length ≤ 1000 ∧ res.length ≤ 1000 ∧ ∀ z ∈ res, z.length ≤ 1000 := by
  obtain ⟨_, h2, h3, h4⟩ := h
  rw [KStt.codes_length] at h2 h3
  refine ⟨by omega, by omega, fun z hz => ?_⟩
  have := h4 z hz
  rw [KStt.codes_length] at this
  omega
theorem psizeB {x : Str} {res : List Str} {part : Str} {e q : Bool} {us : List Value} (h : PInv (KStt.codes x) res part e q) (hl : x.length ≤ 1000) (hs : StrsAre us res) : us.toArray.size ≤ sizeLine := by
  have h2 := psizeE h hl
  rw [List.size_toArray, hs.length, sizeLine_eq]; omega
theorem pcompA {x : Str} {res : List Str} {part : Str} {e q : Bool} (h : PInv (KStt.codes x) res part e q) (hl : x.length ≤ 1000) : res.length ≤ sizeLine := by
  have h2 := psizeE h hl
  rw [sizeLine_eq]; omega
theorem pcompB {x : Str} {res : List Str} {part : Str} {e q : Bool} (h : PInv (KStt.codes x) res part e q) (hl : x.length ≤ 1000) : ∀ z ∈ res, z.length ≤ sizeLine := by
  have h2 := psizeE h hl
  intro z hz
  have := h2.2.2 z hz
  rw [sizeLine_eq]; omega
theorem pcompA' {x : Str} {res : List Str} {part : Str} {e q : Bool} (h : PInv (KStt.codes x) res part e q) (hl : x.length ≤ 1000) : (res ++ [part]).length ≤ sizeLine := by
  have h2 := psizeE h hl
  rw [List.length_append, List.length_singleton, sizeLine_eq]; omega
theorem pcompB' {x : Str} {res : List Str} {part : Str} {e q : Bool} (h : PInv (KStt.codes x) res part e q) (hl : x.length ≤ 1000) : ∀ z ∈ res ++ [part], z.length ≤ sizeLine := by
  have h2 := psizeE h hl
  intro z hz
  rcases List.mem_append.mp hz with hz | hz
  · exact pcompB h hl z hz
  · rw [List.mem_singleton.mp hz, sizeLine_eq]; omega
def parItems (x : Str) : List Str := if (pfold x.cps.toList).2.1 = Str.ofString "" then (pfold x.cps.toList).1 else (pfold x.cps.toList).1 ++ [(pfold x.cps.toList).2.1]
end Mine
/-! PeParse -/
namespace Mine
local macro_rules | `(tactic| walk_at "no such key 0") => `(tactic| fail "none")
set_option maxRecDepth 100000
set_option maxHeartbeats 8000000
local macro_rules | `(tactic| walk_at "inplaceOp Add str str") => `(tactic| (k_here; refine PyProof.Rows.iadd_str ?_ (by exact psizeP (by assumption) (by assumption) (by assumption) _); intro _ _))
local macro_rules | `(tactic| walk_at "call builtin:list.append") => `(tactic| (k_here; (with_reducible show wpAny _ _ (call (Value.builtin _) [Value.ref _, _]) _ _ _); k_dflt (refine' append_K ?k1 ?k2 ?k3 ?_ ?z; (case k1 => k_asm); (case k2 => k_asm); (case k3 => k_upd); (case z => first | exact psizeA (by assumption) (by assumption) (by assumption) (by assumption) | exact psizeB (by assumption) (by assumption) (by assumption)); k_whole); intro h' F' N'; (try k_sweep)))
local macro_rules | `(tactic| walk_at "eval ListComp") => `(tactic| (k_here; k_dflt (refine LCg.ListComp_U (F₀ := by k_asm) (by with_unfolding_all rfl) (by decide) (by rfl) (by decide) (by rfl) ?_)))
local macro_rules | `(tactic| walk_at "CompSrc") => `(tactic| (k_here; (rename News _ _ _ _ => nE'); (try simp only [List.push_toArray] at nE'); k_dflt (refine comp_src Txt.strip (by rfl) (by k_asm) nE' (by k_memK) (by first | assumption | exact StrsAre.append' (by assumption) (.cons _ _ .nil)) (by first | exact pcompA (by assumption) (by assumption) | exact pcompA' (by assumption) (by assumption)) (by first | exact pcompB (by assumption) (by assumption) | exact pcompB' (by assumption) (by assumption)) (fun s' z' t' I' oI' C' oC' D' m' ys' h' tk' E' hz' hC' hx' F' N' => ?_) (fun ys' D' h' tk' hS' F' N' o1' => ?_)); (all_goals (try simp only [LCg.Off1, and_true] at o1')); (all_goals (try dsimp only))))
local macro_rules | `(tactic| walk_at "call builtin:str.strip") => `(tactic| (k_here; refine SC.strip (fun t' k' => ?_) (by assumption)))
theorem truthy_text {prog : Program} {w : World} {A : Around} {E : Value → Shared → Prop} {s : Shared} {x : Str} {t : Tok} {Q : Bool → Shared → Prop} (hl : x.length ≤ 1000) (h : Q (x != Str.ofString "") { s with toks := s.toks + 1 + 1 }) : wpAny (model prog w) A (truthy (.str x t)) Q E s := by
  refine SBL.truthy (by omega) ?_
  have e : ((x.length : Int) != 0) = (x != Str.ofString "") := by
    rw [Bool.eq_iff_iff]
    simp only [bne_iff_ne, ne_eq]
    constructor
    · intro h1 h2; subst h2; exact h1 rfl
    · intro h1 h2
      refine h1 (Str.ext' ?_)
      have : x.cps.size = 0 := by
        have : ((x.cps.size : Nat) : Int) = 0 := h2
        omega
      exact Array.eq_empty_of_size_eq_zero this
  rw [e]
  exact h
local macro_rules | `(tactic| walk_at "truthy str") => `(tactic| (k_here; refine truthy_text (psizeE (by assumption) (by assumption)).1 ?_))
theorem qx1 {x : Str} {res : List Str} {part : Str} {e q : Bool} (h : PInv (KStt.codes x) res part e q) (hp : (part != Str.ofString "") = true) : res ++ [part] = parItems x := by
  have hp' : part ≠ Str.ofString "" := by simpa using hp
  have h1 := h.1
  rw [codes_nat] at h1
  unfold parItems; rw [← h1]; simp only [if_neg hp']
theorem qx2 {x : Str} {res : List Str} {part : Str} {e q : Bool} (h : PInv (KStt.codes x) res part e q) (hp : (part != Str.ofString "") = false) : res = parItems x := by
  have hp' : part = Str.ofString "" := by simpa using hp
  have h1 := h.1
  rw [codes_nat] at h1
  unfold parItems; rw [← h1]; simp only [if_pos hp']
theorem texts_end {h₀ h' : Heap} {L r l' : Addr} {m : Str → Option Value} {news : List (Addr × Obj)} {o' : Obj} {s : Shared} {Q : Value → Shared → Prop} {f : Str → Str} {xs Xs : List Str} {rs : List Value} {c' tk' : Nat}
    (hret : ∀ (r : Addr) (rs : List Value) (c' : Nat) (h' : Heap) (tk' : Nat), Fr h₀ L h' m → News h₀ L h' ((r, listOf rs.toArray c') :: news) → StrsAre rs (Xs.map f) → Q (.ref r) { s with heap := h', toks := tk' })
    (F : Fr h₀ L h' m) (N : News h₀ L h' ((r, listOf rs.toArray c') :: (l', o') :: news)) (hS : StrsAre rs (xs.map f)) (ey : xs = Xs) : Q (.ref r) { s with heap := h', toks := tk' } := by
  subst ey
  refine hret r rs c' h' tk' F (fun p hp => N p ?_) hS
  rcases List.mem_cons.mp hp with rfl | hp
  · exact .head _
  · exact .tail _ (.tail _ hp)
local macro_rules | `(tactic| kst_facts) => `(tactic| ((try dsimp only); first | exact StrsAre.nil | with_reducible assumption | exact StrsAre.append' (by with_reducible assumption) (.cons _ _ .nil)))
theorem t_parse (x : Str) (tx : Tok) (w : World) (mean : ExcName → Option Value) (mg mb : Str → Option Value) (news : List (Addr × Obj)) (dp un : Nat) (gd : Option (List Code)) (cn : Str) (cs : Scope) (a : Addr) (ccd : Value) (cl : List (Str × Addr)) (outer : List Env) (A₀ : Around) (base h₀ : Heap) (L : Addr) (m : Str → Option Value) (s : Shared) (Q E : Value → Shared → Prop) :
    Below A₀ base outer h₀ → Fr h₀ L s.heap m → (hd.heap_39 w.params).In h₀ → News h₀ L s.heap news → Top hd.view_39 (looseW hd.view_39 []) mean mg mb h₀ → cs.kind = .function →
    x.length ≤ 1000 → dp + 1 < recursionLimit → un + 8 < cLine →
    (∀ (r : Addr) (rs : List Value) (c' : Nat) (h' : Heap) (tk' : Nat), Fr h₀ L h' m → News h₀ L h' ((r, listOf rs.toArray c') :: news) → StrsAre rs ((parItems x).map Txt.strip) → Q (.ref r) { s with heap := h', toks := tk' }) →
      wpAny (model Challenge.rw_pe0073_01.row.prog w) (ktrTop dp un gd cn cs L a ccd cl outer) (call (.ref 19) [.str x tx]) Q E s := by
  k_with_none
  w_top off
  k_fill; intros; rename_i hret
  k_with "pyIter str" => k_state (fun pre res part escape quote => PInv pre res part escape quote) "res$" "part" "escape" "quote"
  k_with "state" => first | exact pinv_nil | exact pw1 (by assumption) (by assumption) | exact pw2 (by assumption) (by assumption) (by assumption) (by assumption) | exact pw3 (by assumption) (by assumption) (by assumption) (by assumption) (by assumption) | exact pw4 (by assumption) (by assumption) (by assumption) (by assumption) (by assumption) | exact pw5 (by assumption) (by assumption) (by assumption) (by assumption) | exact pw6 (by assumption) (by assumption) (by assumption) (by assumption) (by assumption) | exact pw7 (by assumption) (by assumption) (by assumption) (by assumption) (by assumption)
  refine wpAny_call ?_
  w_strict (k_dflt cell_enter)
  k_steps
  all_goals (refine texts_end hret (by k_asm) (by assumption) (by assumption) ?_)
  all_goals first | exact qx1 (by assumption) (by assumption) | exact qx2 (by assumption) (by assumption)
end Mine
/-! PeNumD -/
namespace Mine
set_option maxRecDepth 100000
/-- the sign at place i in base 2, of any int -/
def tb : Int → Nat → Bool
  | x, 0 => decide (x % 2 = 1)
  | x, i + 1 => tb (x / 2) i
abbrev NS := List Str × Str × Bool × Bool
/-- by the numbers, sign by sign: items, part, is the run of backslashes odd, in quotes -/
def nstep (st : NS) (c : Nat) : NS :=
  if c = 92 then (st.1, (if st.2.2.2 = true ∧ st.2.2.1 = false then st.2.1 else st.2.1 ++ ⟨#[c]⟩), !st.2.2.1, st.2.2.2)
  else if c = 34 then (st.1, st.2.1 ++ ⟨#[c]⟩, false, if st.2.2.1 = true then st.2.2.2 else !st.2.2.2)
  else if c = 44 then
    if st.2.2.2 = true then (st.1, st.2.1 ++ ⟨#[c]⟩, false, st.2.2.2) else (st.1 ++ [st.2.1], Str.ofString "", false, st.2.2.2)
  else (st.1, st.2.1 ++ ⟨#[c]⟩, false, st.2.2.2)
def nfold (l : List Nat) : NS := l.foldl nstep ([], Str.ofString "", false, false)
def oddAt (l : List Nat) (i : Nat) : Bool := (nfold (l.take i)).2.2.1
def inAt (l : List Nat) (i : Nat) : Bool := (nfold (l.take i)).2.2.2
def Mk (l : List Nat) (d k : Nat) (s : Int) : Prop := (∀ i, tb s i = decide (i < k ∧ l[i]? = some d)) ∧ 0 ≤ s ∧ s < 2 ^ k
def NInv (x : Str) (pre : List Int) (s m c : Int) : Prop := Mk x.cps.toList 92 pre.length s ∧ Mk x.cps.toList 34 pre.length m ∧ Mk x.cps.toList 44 pre.length c
def WInv (x : Str) (q step : Int) : Prop := 1 ≤ step ∧ step ≤ 2 * (x.length : Int) + 1 ∧ 0 ≤ q ∧ q < 2 ^ (x.length + 2 * step.toNat) ∧ ∀ i, tb q i = (inAt x.cps.toList (i + 1) ^^ inAt x.cps.toList (i + 1 - step.toNat))
def IInv (x : Str) (pre : List Int) (items : List Str) (part : Str) : Prop :=
  items = (nfold (x.cps.toList.take pre.length)).1 ∧ part = (nfold (x.cps.toList.take pre.length)).2.1 ∧ part.length ≤ pre.length ∧ items.length ≤ pre.length ∧ ∀ z ∈ items, z.length ≤ pre.length
def numItems (x : Str) : List Str := if (nfold x.cps.toList).2.1 = Str.ofString "" then (nfold x.cps.toList).1 else (nfold x.cps.toList).1 ++ [(nfold x.cps.toList).2.1]
end Mine
/-! PeBits -/
namespace Mine
open Builtin (bitNot bitAnd bitOr bitXor)
theorem not_half (x : Int) : bitNot x % 2 = 1 - x % 2 ∧ bitNot x / 2 = bitNot (x / 2) := by
  unfold bitNot; omega
theorem nat_and_half (m n : Nat) : (m &&& n) / 2 = (m / 2) &&& (n / 2) ∧ ((m &&& n) % 2 = 1 ↔ m % 2 = 1 ∧ n % 2 = 1) := ⟨Nat.and_div_two, Nat.and_mod_two_eq_one⟩
theorem nat_or_half (m n : Nat) : (m ||| n) / 2 = (m / 2) ||| (n / 2) ∧ ((m ||| n) % 2 = 1 ↔ m % 2 = 1 ∨ n % 2 = 1) := ⟨Nat.or_div_two, Nat.or_mod_two_eq_one⟩
theorem toNat_half {x : Int} (h : 0 ≤ x) : (x / 2).toNat = x.toNat / 2 ∧ (x.toNat : Int) = x ∧ 0 ≤ x / 2 := by omega
theorem and_half (x y : Int) : bitAnd x y / 2 = bitAnd (x / 2) (y / 2) ∧ (bitAnd x y % 2 = 1 ↔ x % 2 = 1 ∧ y % 2 = 1) := by
  by_cases hx : 0 ≤ x <;> by_cases hy : 0 ≤ y
  · rw [bitAnd_pp hx hy, bitAnd_pp (by omega) (by omega)]
    have a := toNat_half hx
    have b := toNat_half hy
    have c := nat_and_half x.toNat y.toNat
    rw [a.1, b.1, ← c.1]
    refine ⟨by omega, ?_⟩
    have := c.2
    omega
  · have hny : 0 ≤ bitNot y := bitNot_nonneg.mpr hy
    rw [bitAnd_pn hx hy, bitAnd_pn (by omega) (by omega)]
    have a := toNat_half hx
    have b := toNat_half hny
    have n := not_half y
    have c := nat_and_half x.toNat (bitNot y).toNat
    rw [← n.2, a.1, b.1, ← c.1]
    have d := c.2
    generalize (x.toNat &&& (bitNot y).toNat) = k at d ⊢
    have n1 := n.1
    generalize hz : bitNot y = z at *
    refine ⟨?_, ?_⟩ <;> omega
  · have hnx : 0 ≤ bitNot x := bitNot_nonneg.mpr hx
    rw [bitAnd_np hx hy, bitAnd_np (by omega) (by omega)]
    have a := toNat_half hy
    have b := toNat_half hnx
    have n := not_half x
    have c := nat_and_half y.toNat (bitNot x).toNat
    rw [← n.2, a.1, b.1, ← c.1]
    have d := c.2
    generalize (y.toNat &&& (bitNot x).toNat) = k at d ⊢
    have n1 := n.1
    generalize hz : bitNot x = z at *
    refine ⟨?_, ?_⟩ <;> omega
  · have hnx : 0 ≤ bitNot x := bitNot_nonneg.mpr hx
    have hny : 0 ≤ bitNot y := bitNot_nonneg.mpr hy
    rw [bitAnd_nn hx hy, bitAnd_nn (by omega) (by omega)]
    have a := toNat_half hnx
    have b := toNat_half hny
    have nx := not_half x
    have ny := not_half y
    have c := nat_or_half (bitNot x).toNat (bitNot y).toNat
    rw [← nx.2, ← ny.2, a.1, b.1, ← c.1]
    have d := c.2
    generalize ((bitNot x).toNat ||| (bitNot y).toNat) = k at d ⊢
    have n1 := nx.1
    have n2 := ny.1
    generalize hz : bitNot x = z at *
    generalize hw : bitNot y = v at *
    unfold bitNot
    refine ⟨?_, ?_⟩ <;> omega
theorem tb_not (x : Int) (i : Nat) : tb (bitNot x) i = !tb x i := by
  induction i generalizing x with
  | zero =>
    have h := (not_half x).1
    simp only [tb]
    rw [Bool.eq_iff_iff]; simp only [decide_eq_true_eq, Bool.not_eq_true', decide_eq_false_iff_not]; omega
  | succ i ih => simp only [tb]; rw [(not_half x).2]; exact ih _
theorem tb_and (x y : Int) (i : Nat) : tb (bitAnd x y) i = (tb x i && tb y i) := by
  induction i generalizing x y with
  | zero =>
    have h := (and_half x y).2
    simp only [tb]
    rw [Bool.eq_iff_iff]; simp only [decide_eq_true_eq, Bool.and_eq_true]; exact h
  | succ i ih => simp only [tb]; rw [(and_half x y).1]; exact ih _ _
theorem tb_or (x y : Int) (i : Nat) : tb (bitOr x y) i = (tb x i || tb y i) := by
  unfold bitOr
  rw [tb_not, tb_and, tb_not, tb_not]
  cases tb x i <;> cases tb y i <;> rfl
theorem xor_half (x y : Int) : bitXor x y / 2 = bitXor (x / 2) (y / 2) ∧ bitXor x y % 2 = (x + y) % 2 := by
  have h := and_half x y
  rw [bitXor_and, bitXor_and, ← h.1]
  have h2 := h.2
  generalize bitAnd x y = k at *
  refine ⟨?_, ?_⟩ <;> omega
theorem tb_xor (x y : Int) (i : Nat) : tb (bitXor x y) i = (tb x i ^^ tb y i) := by
  induction i generalizing x y with
  | zero =>
    have h := (xor_half x y).2
    simp only [tb]
    rw [h]
    by_cases h1 : x % 2 = 1 <;> by_cases h2 : y % 2 = 1 <;> simp only [h1, h2, decide_true, decide_false] <;> (rw [Bool.eq_iff_iff]; simp only [decide_eq_true_eq]; first | (simp; omega))
  | succ i ih => simp only [tb]; rw [(xor_half x y).1]; exact ih _ _
/-- the carry into place i -/
def cy (x y : Int) (c : Bool) : Nat → Bool
  | 0 => c
  | i + 1 => (tb x i && tb y i) || (cy x y c i && (tb x i || tb y i))
theorem cy_half (x y : Int) (c : Bool) (i : Nat) : cy x y c (i + 1) = cy (x / 2) (y / 2) (cy x y c 1) i := by
  induction i with
  | zero => rfl
  | succ i ih =>
    rw [cy, ih]
    conv => rhs; rw [cy]
    simp only [tb]
theorem tb_add (x y : Int) (c : Bool) (i : Nat) : tb (x + y + (if c = true then 1 else 0)) i = (tb x i ^^ tb y i ^^ cy x y c i) := by
  induction i generalizing x y c with
  | zero =>
    simp only [tb, cy]
    cases c <;> by_cases h1 : x % 2 = 1 <;> by_cases h2 : y % 2 = 1 <;> simp only [h1, h2, decide_true, decide_false] <;> (rw [Bool.eq_iff_iff]; simp only [decide_eq_true_eq]; simp; omega)
  | succ i ih =>
    rw [cy_half]
    simp only [tb]
    rw [← ih]
    congr 1
    simp only [cy, tb]
    cases c <;> by_cases h1 : x % 2 = 1 <;> by_cases h2 : y % 2 = 1 <;> simp [h1, h2] <;> omega
theorem tb_add0 (x y : Int) (i : Nat) : tb (x + y) i = (tb x i ^^ tb y i ^^ cy x y false i) := by
  have h := tb_add x y false i
  simpa using h
theorem tb_double (x : Int) (i : Nat) : tb (2 * x) (i + 1) = tb x i ∧ tb (2 * x) 0 = false := by
  refine ⟨?_, ?_⟩
  · show tb (2 * x / 2) i = tb x i
    rw [show 2 * x / 2 = x by omega]
  · simp only [tb]; rw [decide_eq_false_iff_not]; omega
theorem tb_shl (x : Int) (k i : Nat) : tb (x * 2 ^ k) i = (decide (k ≤ i) && tb x (i - k)) := by
  induction k generalizing i with
  | zero => simp
  | succ k ih =>
    rw [show x * 2 ^ (k + 1) = 2 * (x * 2 ^ k) by rw [Int.pow_succ]; generalize (2 : Int) ^ k = p; rw [Int.mul_comm p 2, Int.mul_left_comm]]
    cases i with
    | zero => rw [(tb_double _ 0).2]; simp
    | succ i =>
      rw [(tb_double _ i).1, ih]
      rw [show i + 1 - (k + 1) = i - k by omega]
      congr 1
      rw [Bool.eq_iff_iff]; simp only [decide_eq_true_eq]; omega
theorem tb_zero (i : Nat) : tb 0 i = false := by
  induction i with
  | zero => rfl
  | succ i ih => exact ih
theorem tb_one (i : Nat) : tb 1 i = decide (i = 0) := by
  cases i with
  | zero => rfl
  | succ i => show tb (1 / 2) i = _; rw [show (1 : Int) / 2 = 0 by decide, tb_zero]; simp
theorem tb_shr (x : Int) (k : Nat) : tb x k = decide ((x.fdiv (2 ^ k)) % 2 = 1) := by
  induction k generalizing x with
  | zero => simp [tb]
  | succ k ih =>
    show tb (x / 2) k = _
    rw [ih]
    have hp : (0 : Int) ≤ 2 ^ k := Int.le_of_lt (Int.pow_pos (by decide))
    have hp' : (0 : Int) ≤ 2 ^ (k + 1) := Int.le_of_lt (Int.pow_pos (by decide))
    rw [Int.fdiv_eq_ediv_of_nonneg _ hp, Int.fdiv_eq_ediv_of_nonneg _ hp', Int.pow_succ, Int.mul_comm, Int.ediv_ediv_of_nonneg (by decide)]
theorem and_nonneg {x : Int} (y : Int) (h : 0 ≤ x) : 0 ≤ bitAnd x y ∧ bitAnd x y ≤ x := by
  by_cases hy : 0 ≤ y
  · rw [bitAnd_pp h hy]
    have := @Nat.and_le_left x.toNat y.toNat
    omega
  · rw [bitAnd_pn h hy]
    have := @Nat.and_le_left x.toNat (bitNot y).toNat
    omega
theorem or_bounds {x y : Int} (hx : 0 ≤ x) (hy : 0 ≤ y) : 0 ≤ bitOr x y ∧ bitOr x y ≤ x + y := by
  rw [bitOr_and]
  have h1 := and_nonneg y hx
  have h2 := and_nonneg x hy
  rw [bitAnd_comm] at h2
  omega
theorem xor_bounds {x y : Int} (hx : 0 ≤ x) (hy : 0 ≤ y) : 0 ≤ bitXor x y ∧ bitXor x y ≤ x + y := by
  rw [bitXor_and]
  have h1 := and_nonneg y hx
  have h2 := and_nonneg x hy
  rw [bitAnd_comm] at h2
  omega
/-- ones at the even places below 2n -/
theorem evens_step (n : Nat) : ((2 : Int) ^ (2 * (n + 1)) - 1).fdiv 3 = 4 * ((2 : Int) ^ (2 * n) - 1).fdiv 3 + 1 ∧ 3 * ((2 : Int) ^ (2 * n) - 1).fdiv 3 = (2 : Int) ^ (2 * n) - 1 := by
  have e : ∀ n : Nat, (2 : Int) ^ (2 * (n + 1)) = 4 * 2 ^ (2 * n) := fun n => by
    rw [show 2 * (n + 1) = 2 * n + 1 + 1 by omega, Int.pow_succ, Int.pow_succ]; omega
  have d : ∀ n : Nat, ∃ k : Int, (2 : Int) ^ (2 * n) = 3 * k + 1 := by
    intro n
    induction n with
    | zero => exact ⟨0, rfl⟩
    | succ n ih => obtain ⟨k, hk⟩ := ih; exact ⟨4 * k + 1, by rw [e, hk]; omega⟩
  obtain ⟨k, hk⟩ := d n
  rw [e, hk, Int.fdiv_eq_ediv_of_nonneg _ (by decide), Int.fdiv_eq_ediv_of_nonneg _ (by decide)]
  omega
theorem tb_evens (n i : Nat) : tb (((2 : Int) ^ (2 * n) - 1).fdiv 3) i = decide (i % 2 = 0 ∧ i < 2 * n) := by
  induction n generalizing i with
  | zero => have e : ((2 : Int) ^ (2 * 0) - 1).fdiv 3 = (0 : Int) := by decide
            rw [e, tb_zero]; simp
  | succ n ih =>
    rw [(evens_step n).1]
    generalize ((2 : Int) ^ (2 * n) - 1).fdiv 3 = E at ih
    match i with
    | 0 => show decide ((4 * E + 1) % 2 = 1) = _; rw [decide_eq_true (show (4 * E + 1) % 2 = 1 by omega), decide_eq_true (show 0 % 2 = 0 ∧ 0 < 2 * (n + 1) by omega)]
    | 1 => show decide ((4 * E + 1) / 2 % 2 = 1) = _; rw [decide_eq_false (show ¬ (4 * E + 1) / 2 % 2 = 1 by omega), decide_eq_false (show ¬ (1 % 2 = 0 ∧ 1 < 2 * (n + 1)) by omega)]
    | i + 2 =>
      show tb ((4 * E + 1) / 2 / 2) i = _
      rw [show (4 * E + 1) / 2 / 2 = E by omega, ih]
      rw [Bool.eq_iff_iff]; simp only [decide_eq_true_eq]; omega
end Mine
/-! PeNumP -/
namespace Mine
set_option maxRecDepth 100000
theorem ls1 {k : Int} (h0 : 0 ≤ k) (h1 : k ≤ 3000) : 0 ≤ k ∧ ((Builtin.Int.intBits 1 : Nat) : Int) + k ≤ 2 ^ 27 := by
  have e : Builtin.Int.intBits 1 = 1 := by decide +kernel
  refine ⟨h0, ?_⟩
  rw [e]; omega
theorem ints_len (x : Str) : (rangeKs 0 ((x.length : Int) - 0).toNat).length = x.length := by rw [rangeKs_length]; omega
theorem ls2 {x : Str} {s m c : Int} (h : NInv x (rangeKs 0 ((x.length : Int) - 0).toNat) s m c) (hl : x.length ≤ 1000) : (0 : Int) ≤ 1 ∧ ((Builtin.Int.intBits s : Nat) : Int) + 1 ≤ 2 ^ 27 := by
  have h1 := h.1.2
  rw [ints_len] at h1
  have h2 : Builtin.Int.intBits s ≤ x.length := intBits_le_iff.mpr (by
    have : ((2 ^ x.length : Nat) : Int) = 2 ^ x.length := by rw [Int.natCast_pow]; rfl
    omega)
  refine ⟨by decide, ?_⟩
  omega
theorem ls3 {x : Str} {q step : Int} (h : WInv x q step) (hl : x.length ≤ 1000) : 0 ≤ step ∧ ((Builtin.Int.intBits q : Nat) : Int) + step ≤ 2 ^ 27 := by
  obtain ⟨h1, h2, h3, h4, _⟩ := h
  have h5 : Builtin.Int.intBits q ≤ x.length + 2 * step.toNat := intBits_le_iff.mpr (by
    have : ((2 ^ (x.length + 2 * step.toNat) : Nat) : Int) = 2 ^ (x.length + 2 * step.toNat) := by rw [Int.natCast_pow]; rfl
    omega)
  refine ⟨by omega, ?_⟩
  omega
section
variable {x part : Str} {pre : List Int} {items : List Str}
theorem isizeA {us : List Value} (h : IInv x pre items part) (hk : pre.length < ((x.length : Int) - 0).toNat) (hl : x.length ≤ 1000) (hs : StrsAre us items) : us.toArray.size ≤ sizeLine := by
  have h1 := h.2.2.2.1
  rw [List.size_toArray, hs.length, sizeLine_eq]; omega
theorem isizeP (h : IInv x pre items part) (hk : pre.length < ((x.length : Int) - 0).toNat) (hl : x.length ≤ 1000) (y : Str) (i : Int) : part.length + (Txt.item y i).length ≤ sizeLine := by
  have h1 := h.2.2.1
  rw [one_len, sizeLine_eq]; omega
theorem isizeE (h : IInv x (rangeKs 0 ((x.length : Int) - 0).toNat) items part) (hl : x.length ≤ 1000) : part.length ≤ 1000 ∧ items.length ≤ 1000 ∧ ∀ z ∈ items, z.length ≤ 1000 := by
  obtain ⟨_, _, h1, h2, h3⟩ := h
  rw [ints_len] at h1 h2 h3
  refine ⟨by omega, by omega, fun z hz => ?_⟩
  have := h3 z hz
  omega
theorem isizeB {us : List Value} (h : IInv x (rangeKs 0 ((x.length : Int) - 0).toNat) items part) (hl : x.length ≤ 1000) (hs : StrsAre us items) : us.toArray.size ≤ sizeLine := by
  have h1 := isizeE h hl
  rw [List.size_toArray, hs.length, sizeLine_eq]; omega
theorem icompA (h : IInv x (rangeKs 0 ((x.length : Int) - 0).toNat) items part) (hl : x.length ≤ 1000) : items.length ≤ sizeLine := by
  have h1 := isizeE h hl
  rw [sizeLine_eq]; omega
theorem icompB (h : IInv x (rangeKs 0 ((x.length : Int) - 0).toNat) items part) (hl : x.length ≤ 1000) : ∀ z ∈ items, z.length ≤ sizeLine := by
  have h1 := isizeE h hl
  intro z hz
  have := h1.2.2 z hz
  rw [sizeLine_eq]; omega
theorem icompA' (h : IInv x (rangeKs 0 ((x.length : Int) - 0).toNat) items part) (hl : x.length ≤ 1000) : (items ++ [part]).length ≤ sizeLine := by
  have h1 := isizeE h hl
  rw [List.length_append, List.length_singleton, sizeLine_eq]; omega
theorem icompB' (h : IInv x (rangeKs 0 ((x.length : Int) - 0).toNat) items part) (hl : x.length ≤ 1000) : ∀ z ∈ items ++ [part], z.length ≤ sizeLine := by
  have h1 := isizeE h hl
  intro z hz
  rcases List.mem_append.mp hz with hz | hz
  · exact icompB h hl z hz
  · rw [List.mem_singleton.mp hz, sizeLine_eq]; omega
end
end Mine
/-! PeNumQ -/
namespace Mine
open Builtin (bitNot bitAnd bitOr bitXor)
theorem len_is (x : Str) : x.length = x.cps.toList.length := by simp [Str.length]
theorem nfold_succ {l : List Nat} {i c : Nat} (h : l[i]? = some c) : nfold (l.take (i + 1)) = nstep (nfold (l.take i)) c := by
  unfold nfold
  rw [List.take_add_one, h, List.foldl_append]
  rfl
def sg (l : List Nat) (d i : Nat) : Bool := decide (l[i]? = some d)
theorem sg_lt {l : List Nat} {d i : Nat} (h : sg l d i = true) : i < l.length := by
  have h' : l[i]? = some d := by simpa [sg] using h
  rcases Nat.lt_or_ge i l.length with hl | hl
  · exact hl
  · rw [List.getElem?_eq_none hl] at h'; cases h'
theorem sg_ne {l : List Nat} {d e i : Nat} (h : sg l d i = true) (hne : d ≠ e) : sg l e i = false := by
  have h' : l[i]? = some d := by simpa [sg] using h
  unfold sg
  rw [h', decide_eq_false_iff_not]
  intro q
  exact hne (Option.some.inj q)
theorem sg_at {l : List Nat} {c d i : Nat} (h : l[i]? = some c) : sg l d i = decide (c = d) := by
  unfold sg
  rw [h]
  rw [Bool.eq_iff_iff]; simp
theorem odd_zero (l : List Nat) : oddAt l 0 = false := rfl
theorem in_zero (l : List Nat) : inAt l 0 = false := rfl
theorem odd_succ {l : List Nat} {i : Nat} (hi : i < l.length) : oddAt l (i + 1) = (sg l 92 i && !oddAt l i) := by
  have h : l[i]? = some l[i] := List.getElem?_eq_getElem hi
  rw [sg_at h]
  unfold oddAt
  rw [nfold_succ h]
  unfold nstep
  generalize nfold (l.take i) = st
  obtain ⟨a, b, o, p⟩ := st
  by_cases h1 : l[i] = 92
  · simp [h1]
  · by_cases h2 : l[i] = 34
    · simp [h2]
    · by_cases h3 : l[i] = 44
      · cases p <;> simp [h3]
      · simp [h1, h2, h3]
theorem in_succ (l : List Nat) (i : Nat) : inAt l (i + 1) = (inAt l i ^^ (sg l 34 i && !oddAt l i)) := by
  rcases Nat.lt_or_ge i l.length with hi | hi
  · have h : l[i]? = some l[i] := List.getElem?_eq_getElem hi
    rw [sg_at h]
    unfold inAt oddAt
    rw [nfold_succ h]
    unfold nstep
    generalize nfold (l.take i) = st
    obtain ⟨a, b, o, p⟩ := st
    by_cases h1 : l[i] = 92
    · simp [h1]
    · by_cases h2 : l[i] = 34
      · cases o <;> cases p <;> simp [h2]
      · by_cases h3 : l[i] = 44
        · cases p <;> simp [h3]
        · simp [h1, h2, h3]
  · have h : sg l 34 i = false := by
      cases e : sg l 34 i with
      | false => rfl
      | true => exact absurd (sg_lt e) (Nat.not_lt.mpr hi)
    rw [h]
    unfold inAt
    rw [List.take_of_length_le hi, List.take_of_length_le (Nat.le_succ_of_le hi)]
    simp
def pv (l : List Nat) : Nat → Bool
  | 0 => false
  | i + 1 => sg l 92 i
theorem odd_pv {l : List Nat} {i : Nat} (hi : i ≤ l.length) (h : pv l i = false) : oddAt l i = false := by
  cases i with
  | zero => rfl
  | succ i =>
    rw [odd_succ (by omega)]
    have h' : sg l 92 i = false := h
    rw [h']; rfl
def ev (i : Nat) : Bool := decide (i % 2 = 0)
theorem ev_succ (i : Nat) : ev (i + 1) = !ev i := by
  unfold ev
  rw [Bool.eq_iff_iff]; simp only [decide_eq_true_eq, Bool.not_eq_true', decide_eq_false_iff_not]; omega
theorem mk_bit {l : List Nat} {d : Nat} {s : Int} (h : Mk l d l.length s) (i : Nat) : tb s i = sg l d i := by
  rw [h.1 i]
  unfold sg
  rw [Bool.eq_iff_iff]
  simp only [decide_eq_true_eq]
  constructor
  · exact fun h => h.2
  · intro h'
    exact ⟨sg_lt (by simpa [sg] using h'), h'⟩
def EE (x : Str) : Int := ((1 * 2 ^ (2 * (x.length : Int) + 2).toNat - 1 : Int)).fdiv 3
theorem ev_bit (x : Str) {i : Nat} (hi : i ≤ x.length) : tb (EE x) i = ev i := by
  unfold EE
  rw [show (2 * (x.length : Int) + 2).toNat = 2 * (x.length + 1) by omega, Int.one_mul, tb_evens]
  unfold ev
  rw [Bool.eq_iff_iff]; simp only [decide_eq_true_eq]; omega
def BB (s : Int) : Int := bitAnd s (bitNot (s * 2 ^ Int.toNat 1))
theorem begins_bit {l : List Nat} {s : Int} (h : Mk l 92 l.length s) (i : Nat) : tb (BB s) i = (sg l 92 i && !pv l i) := by
  unfold BB
  rw [tb_and, tb_not, mk_bit h]
  rw [show (2 : Int) ^ Int.toNat 1 = 2 ^ 1 from rfl, tb_shl]
  cases i with
  | zero => simp [pv]
  | succ i => rw [mk_bit h]; simp [pv]
theorem cy_e {x : Str} {s : Int} (h : Mk x.cps.toList 92 x.cps.toList.length s) (i : Nat) (hi : i ≤ x.length) : cy s (bitAnd (BB s) (EE x)) false i = (pv x.cps.toList i && ((!ev i) == oddAt x.cps.toList i)) := by
  induction i with
  | zero => rfl
  | succ i ih =>
    have hl := len_is x
    rw [cy, ih (by omega), tb_and, begins_bit h, ev_bit x (by omega), mk_bit h, odd_succ (by omega), ev_succ]
    have o := odd_pv (l := x.cps.toList) (i := i) (by omega)
    show _ = (sg x.cps.toList 92 i && _)
    generalize sg x.cps.toList 92 i = S at *
    generalize pv x.cps.toList i = p at *
    generalize ev i = e at *
    generalize oddAt x.cps.toList i = d at *
    cases S <;> cases p <;> cases e <;> cases d <;> simp at o ⊢
theorem cy_o {x : Str} {s : Int} (h : Mk x.cps.toList 92 x.cps.toList.length s) (i : Nat) (hi : i ≤ x.length) : cy s (bitAnd (BB s) (bitNot (EE x))) false i = (pv x.cps.toList i && (ev i == oddAt x.cps.toList i)) := by
  induction i with
  | zero => rfl
  | succ i ih =>
    have hl := len_is x
    rw [cy, ih (by omega), tb_and, tb_not, begins_bit h, ev_bit x (by omega), mk_bit h, odd_succ (by omega), ev_succ]
    have o := odd_pv (l := x.cps.toList) (i := i) (by omega)
    show _ = (sg x.cps.toList 92 i && _)
    generalize sg x.cps.toList 92 i = S at *
    generalize pv x.cps.toList i = p at *
    generalize ev i = e at *
    generalize oddAt x.cps.toList i = d at *
    cases S <;> cases p <;> cases e <;> cases d <;> simp at o ⊢
theorem esc_bit {x : Str} {s : Int} (h : Mk x.cps.toList 92 x.cps.toList.length s) (i : Nat) (hi : i ≤ x.length) :
    tb (bitAnd (bitNot s) (bitOr (bitAnd (s + bitAnd (BB s) (EE x)) (bitNot (EE x))) (bitAnd (s + bitAnd (BB s) (bitNot (EE x))) (EE x)))) i = (!sg x.cps.toList 92 i && oddAt x.cps.toList i) := by
  have hl := len_is x
  have o := odd_pv (l := x.cps.toList) (i := i) (by omega)
  simp only [tb_and, tb_or, tb_not, tb_add0, begins_bit h, ev_bit x hi, mk_bit h, cy_e h i hi, cy_o h i hi]
  generalize sg x.cps.toList 92 i = S at *
  generalize pv x.cps.toList i = p at *
  generalize ev i = e at *
  generalize oddAt x.cps.toList i = d at *
  cases S <;> cases p <;> cases e <;> cases d <;> simp at o ⊢
theorem escs_bit {x : Str} {s : Int} (h : Mk x.cps.toList 92 x.cps.toList.length s) (i : Nat) (hi : i ≤ x.length) (hS : sg x.cps.toList 92 i = true) :
    tb (bitOr (bitAnd (EE x) (bitNot (s + bitAnd (BB s) (EE x)))) (bitAnd (bitNot (EE x)) (bitNot (s + bitAnd (BB s) (bitNot (EE x)))))) i = !oddAt x.cps.toList i := by
  have hl := len_is x
  have o := odd_pv (l := x.cps.toList) (i := i) (by omega)
  simp only [tb_and, tb_or, tb_not, tb_add0, begins_bit h, ev_bit x hi, mk_bit h, cy_e h i hi, cy_o h i hi, hS]
  generalize pv x.cps.toList i = p at *
  generalize ev i = e at *
  generalize oddAt x.cps.toList i = d at *
  cases p <;> cases e <;> cases d <;> simp at o ⊢
theorem ninv_full {x : Str} {s m c : Int} (h : NInv x (rangeKs 0 ((x.length : Int) - 0).toNat) s m c) : Mk x.cps.toList 92 x.cps.toList.length s ∧ Mk x.cps.toList 34 x.cps.toList.length m ∧ Mk x.cps.toList 44 x.cps.toList.length c := by
  unfold NInv at h
  rw [ints_len, len_is] at h
  exact h
theorem mk_nil (l : List Nat) (d : Nat) : Mk l d 0 0 := ⟨fun i => by rw [tb_zero]; simp, by decide, by decide⟩
theorem mk_hit {l : List Nat} {d k : Nat} {s : Int} (h : Mk l d k s) (hc : l[k]? = some d) : Mk l d (k + 1) (bitOr s (1 * 2 ^ k)) := by
  obtain ⟨h1, h2, h3⟩ := h
  have hp : (0 : Int) < 2 ^ k := Int.pow_pos (by decide)
  have hb := or_bounds h2 (show (0 : Int) ≤ 1 * 2 ^ k by omega)
  refine ⟨fun i => ?_, hb.1, ?_⟩
  · rw [tb_or, tb_shl, tb_one, h1]
    rcases Nat.lt_trichotomy i k with hi | hi | hi
    · have a : ¬ k ≤ i := by omega
      have b : i < k + 1 := by omega
      simp [hi, a, b]
    · subst hi; simp [hc]
    · have a : ¬ i < k := by omega
      have b : ¬ i < k + 1 := by omega
      have c : ¬ i - k = 0 := by omega
      simp [a, b, c]
  · rw [Int.pow_succ]; omega
theorem mk_miss {l : List Nat} {d k : Nat} {s : Int} (h : Mk l d k s) (hc : l[k]? ≠ some d) : Mk l d (k + 1) s := by
  obtain ⟨h1, h2, h3⟩ := h
  have hp : (0 : Int) < 2 ^ k := Int.pow_pos (by decide)
  refine ⟨fun i => ?_, h2, ?_⟩
  · rw [h1]
    rw [Bool.eq_iff_iff]; simp only [decide_eq_true_eq]
    constructor
    · exact fun h => ⟨by omega, h.2⟩
    · intro h
      refine ⟨?_, h.2⟩
      rcases Nat.lt_or_ge i k with hi | hi
      · exact hi
      · have : i = k := by omega
        subst this
        exact absurd h.2 hc
  · rw [Int.pow_succ]; omega
theorem item_is {x : Str} {pre : List Int} {k : Int} (e : k = 0 + (pre.length : Int)) (hk : pre.length < ((x.length : Int) - 0).toNat) : ∃ c, x.cps.toList[pre.length]? = some c ∧ Txt.item x k = ⟨#[c]⟩ ∧ k.toNat = pre.length := by
  have hl := len_is x
  have hlt : pre.length < x.cps.toList.length := by omega
  refine ⟨x.cps.toList[pre.length], List.getElem?_eq_getElem hlt, ?_, by omega⟩
  refine item_meets (by omega) ?_
  have : k.toNat = pre.length := by omega
  rw [this]
  have h := List.getElem?_eq_getElem hlt
  simpa using h
section
variable {x : Str} {pre : List Int} {k s m c : Int}
theorem n_nil : NInv x [] 0 0 0 := ⟨mk_nil _ _, mk_nil _ _, mk_nil _ _⟩
theorem nw1 (h : NInv x pre s m c) (e : k = 0 + (pre.length : Int)) (hk : pre.length < ((x.length : Int) - 0).toNat) (hc : (Txt.item x k == Str.ofString "\\") = true) : NInv x (pre ++ [k]) (bitOr s (1 * 2 ^ k.toNat)) m c := by
  obtain ⟨d, h1, h2, h3⟩ := item_is e hk
  rw [h2] at hc
  have hd := eqT bs_is hc
  subst hd
  unfold NInv
  rw [List.length_append, List.length_singleton, h3]
  exact ⟨mk_hit h.1 h1, mk_miss h.2.1 (by rw [h1]; simp), mk_miss h.2.2 (by rw [h1]; simp)⟩
theorem nw2 (h : NInv x pre s m c) (e : k = 0 + (pre.length : Int)) (hk : pre.length < ((x.length : Int) - 0).toNat) (_ : (Txt.item x k == Str.ofString "\\") = false) (hc : (Txt.item x k == Str.ofString "\"") = true) : NInv x (pre ++ [k]) s (bitOr m (1 * 2 ^ k.toNat)) c := by
  obtain ⟨d, h1, h2, h3⟩ := item_is e hk
  rw [h2] at hc
  have hd := eqT dq_is hc
  subst hd
  unfold NInv
  rw [List.length_append, List.length_singleton, h3]
  exact ⟨mk_miss h.1 (by rw [h1]; simp), mk_hit h.2.1 h1, mk_miss h.2.2 (by rw [h1]; simp)⟩
theorem nw3 (h : NInv x pre s m c) (e : k = 0 + (pre.length : Int)) (hk : pre.length < ((x.length : Int) - 0).toNat) (_ : (Txt.item x k == Str.ofString "\\") = false) (_ : (Txt.item x k == Str.ofString "\"") = false) (hc : (Txt.item x k == Str.ofString ",") = true) : NInv x (pre ++ [k]) s m (bitOr c (1 * 2 ^ k.toNat)) := by
  obtain ⟨d, h1, h2, h3⟩ := item_is e hk
  rw [h2] at hc
  have hd := eqT cm_is hc
  subst hd
  unfold NInv
  rw [List.length_append, List.length_singleton, h3]
  exact ⟨mk_miss h.1 (by rw [h1]; simp), mk_miss h.2.1 (by rw [h1]; simp), mk_hit h.2.2 h1⟩
theorem nw4 (h : NInv x pre s m c) (e : k = 0 + (pre.length : Int)) (hk : pre.length < ((x.length : Int) - 0).toNat) (ha : (Txt.item x k == Str.ofString "\\") = false) (hb : (Txt.item x k == Str.ofString "\"") = false) (hc : (Txt.item x k == Str.ofString ",") = false) : NInv x (pre ++ [k]) s m c := by
  obtain ⟨d, h1, h2, h3⟩ := item_is e hk
  rw [h2] at ha hb hc
  have ha := eqF bs_is ha
  have hb := eqF dq_is hb
  have hc := eqF cm_is hc
  unfold NInv
  rw [List.length_append, List.length_singleton]
  exact ⟨mk_miss h.1 (by rw [h1]; simpa using ha), mk_miss h.2.1 (by rw [h1]; simpa using hb), mk_miss h.2.2 (by rw [h1]; simpa using hc)⟩
end
section
variable {x : Str} {q step s m c : Int}
theorem w_start (h : NInv x (rangeKs 0 ((x.length : Int) - 0).toNat) s m c) :
    WInv x (bitAnd m (bitNot (bitAnd (bitNot s) (bitOr (bitAnd (s + bitAnd (bitAnd s (bitNot (s * 2 ^ Int.toNat 1))) ((1 * 2 ^ (2 * (x.length : Int) + 2).toNat - 1 : Int).fdiv 3)) (bitNot ((1 * 2 ^ (2 * (x.length : Int) + 2).toNat - 1 : Int).fdiv 3)))
      (bitAnd (s + bitAnd (bitAnd s (bitNot (s * 2 ^ Int.toNat 1))) (bitNot ((1 * 2 ^ (2 * (x.length : Int) + 2).toNat - 1 : Int).fdiv 3))) ((1 * 2 ^ (2 * (x.length : Int) + 2).toNat - 1 : Int).fdiv 3)))))) 1 := by
  obtain ⟨h1, h2, h3⟩ := ninv_full h
  have hl := len_is x
  have hb := and_nonneg (bitNot (bitAnd (bitNot s) (bitOr (bitAnd (s + bitAnd (BB s) (EE x)) (bitNot (EE x))) (bitAnd (s + bitAnd (BB s) (bitNot (EE x))) (EE x))))) h2.2.1
  refine ⟨by omega, by omega, hb.1, ?_, fun i => ?_⟩
  · refine Int.lt_of_le_of_lt hb.2 (Int.lt_of_lt_of_le h2.2.2 ?_)
    rw [← hl, show (x.length + 2 * Int.toNat 1) = x.length + 2 from rfl, Int.pow_add]
    have hp : (0 : Int) < 2 ^ x.length := Int.pow_pos (by decide)
    omega
  · show tb (bitAnd m (bitNot (bitAnd (bitNot s) (bitOr (bitAnd (s + bitAnd (BB s) (EE x)) (bitNot (EE x))) (bitAnd (s + bitAnd (BB s) (bitNot (EE x))) (EE x)))))) i = _
    rw [tb_and, tb_not, mk_bit h2, show i + 1 - Int.toNat 1 = i from rfl, in_succ]
    cases hm : sg x.cps.toList 34 i with
    | false => simp
    | true =>
      have hi := sg_lt hm
      rw [esc_bit h1 i (by omega), sg_ne hm (by decide)]
      cases inAt x.cps.toList i <;> cases oddAt x.cps.toList i <;> rfl
theorem w_step (h : WInv x q step) (hlt : step < (x.length : Int)) : WInv x (bitXor q (q * 2 ^ step.toNat)) (2 * step) := by
  obtain ⟨h1, h2, h3, h4, h5⟩ := h
  obtain ⟨t, rfl⟩ : ∃ t : Nat, step = (t : Int) := ⟨step.toNat, by omega⟩
  have ht : (t : Int).toNat = t := by omega
  have ht2 : (2 * (t : Int)).toNat = 2 * t := by omega
  rw [ht] at h4 h5 ⊢
  have hp : (0 : Int) < 2 ^ t := Int.pow_pos (by decide)
  have hq2 : 0 ≤ q * 2 ^ t := Int.mul_nonneg h3 (Int.le_of_lt hp)
  have hb := xor_bounds h3 hq2
  refine ⟨by omega, by omega, hb.1, ?_, fun i => ?_⟩
  · rw [ht2]
    refine Int.lt_of_le_of_lt hb.2 ?_
    have hT : (2 : Int) ≤ 2 ^ t := by
      have : (2 : Int) ^ t = 2 ^ (t - 1) * 2 := by rw [← Int.pow_succ]; congr 1; omega
      have hp1 : (0 : Int) < 2 ^ (t - 1) := Int.pow_pos (by decide)
      omega
    have e : (2 : Int) ^ (x.length + 2 * (2 * t)) = 2 ^ (x.length + 2 * t) * (2 ^ t * 2 ^ t) := by
      rw [← Int.pow_add, ← Int.pow_add]; congr 1; omega
    rw [e]
    have hTT : 1 + (2 : Int) ^ t ≤ 2 ^ t * 2 ^ t := by
      have : (2 : Int) * 2 ^ t ≤ 2 ^ t * 2 ^ t := Int.mul_le_mul_of_nonneg_right hT (Int.le_of_lt hp)
      omega
    have e2 : q + q * 2 ^ t = q * (1 + 2 ^ t) := by rw [Int.mul_add, Int.mul_one]
    rw [e2]
    refine Int.lt_of_lt_of_le (Int.mul_lt_mul_of_pos_right h4 (by omega)) ?_
    exact Int.mul_le_mul_of_nonneg_left hTT (Int.le_of_lt (Int.pow_pos (by decide)))
  · rw [tb_xor, tb_shl, h5, h5, ht2]
    rcases Nat.lt_or_ge i t with hi | hi
    · rw [decide_eq_false (show ¬ t ≤ i by omega), show i + 1 - t = 0 by omega, show i + 1 - 2 * t = 0 by omega]
      simp
    · rw [decide_eq_true hi, show i - t + 1 = i + 1 - t by omega, show i + 1 - t - t = i + 1 - 2 * t by omega]
      generalize inAt x.cps.toList (i + 1) = a
      generalize inAt x.cps.toList (i + 1 - t) = b
      generalize inAt x.cps.toList (i + 1 - 2 * t) = c
      cases a <;> cases b <;> cases c <;> rfl
theorem w_less (h : WInv x q step) (hlt : step < (x.length : Int)) : x.length - (2 * step).toNat < x.length - step.toNat := by
  have := h.1
  omega
theorem q_bit (h : WInv x q step) (hs : ¬ step < (x.length : Int)) {i : Nat} (hi : i < x.length) : tb q i = inAt x.cps.toList (i + 1) := by
  rw [h.2.2.2.2 i, show i + 1 - step.toNat = 0 by omega, in_zero]; simp
theorem bit_of (X : Int) (k : Nat) : bitAnd (X.fdiv (2 ^ k)) 1 ≠ 0 ↔ tb X k = true := by
  rw [bitAnd_m1, tb_shr]
  simp only [decide_eq_true_eq]
  omega
variable {pre : List Int} {k : Int} {items : List Str} {part : Str}
theorem i_nil : IInv x [] [] (Str.ofString "") := ⟨rfl, rfl, by decide, by decide, by simp⟩
theorem cut_bit (hn : NInv x (rangeKs 0 ((x.length : Int) - 0).toNat) s m c) (hw : WInv x q step) (hs : ¬ step < (x.length : Int)) {i : Nat} (hi : i < x.length) : tb (bitAnd c (bitNot q)) i = (sg x.cps.toList 44 i && !inAt x.cps.toList i) := by
  obtain ⟨_, _, h3⟩ := ninv_full hn
  rw [tb_and, tb_not, mk_bit h3, q_bit hw hs hi, in_succ]
  cases hc : sg x.cps.toList 44 i with
  | false => rfl
  | true => rw [sg_ne hc (by decide)]; simp
theorem gone_bit (hn : NInv x (rangeKs 0 ((x.length : Int) - 0).toNat) s m c) (hw : WInv x q step) (hs : ¬ step < (x.length : Int)) {i : Nat} (hi : i < x.length) :
    tb (bitAnd q (bitAnd s (bitOr (bitAnd (EE x) (bitNot (s + bitAnd (BB s) (EE x)))) (bitAnd (bitNot (EE x)) (bitNot (s + bitAnd (BB s) (bitNot (EE x)))))))) i = (inAt x.cps.toList i && sg x.cps.toList 92 i && !oddAt x.cps.toList i) := by
  obtain ⟨h1, _, _⟩ := ninv_full hn
  rw [tb_and, tb_and, mk_bit h1, q_bit hw hs hi, in_succ]
  cases hc : sg x.cps.toList 92 i with
  | false => simp
  | true => rw [escs_bit h1 i (by omega) hc, sg_ne hc (by decide)]; cases inAt x.cps.toList i <;> simp
theorem iinv_snoc {items' : List Str} {part' : Str} {d : Nat} (h : IInv x pre items part) (hd : x.cps.toList[pre.length]? = some d)
    (e1 : items' = (nstep (items, part, oddAt x.cps.toList pre.length, inAt x.cps.toList pre.length) d).1) (e2 : part' = (nstep (items, part, oddAt x.cps.toList pre.length, inAt x.cps.toList pre.length) d).2.1)
    (b1 : part'.length ≤ pre.length + 1) (b2 : items'.length ≤ pre.length + 1) (b3 : ∀ z ∈ items', z.length ≤ pre.length + 1) : IInv x (pre ++ [k]) items' part' := by
  obtain ⟨h1, h2, _, _, _⟩ := h
  have e : nfold (x.cps.toList.take pre.length) = (items, part, oddAt x.cps.toList pre.length, inAt x.cps.toList pre.length) := by
    rw [h1, h2]; rfl
  unfold IInv
  rw [List.length_append, List.length_singleton, nfold_succ hd, e]
  exact ⟨e1, e2, b1, b2, b3⟩
theorem iw1 (h : IInv x pre items part) (e : k = 0 + (pre.length : Int)) (hk : pre.length < ((x.length : Int) - 0).toNat) (hn : NInv x (rangeKs 0 ((x.length : Int) - 0).toNat) s m c) (hw : WInv x q step) (hs : ¬ step < (x.length : Int))
    (hc : bitAnd ((bitAnd c (bitNot q)).fdiv (2 ^ k.toNat)) 1 ≠ 0) : IInv x (pre ++ [k]) (items ++ [part]) (Str.ofString "") := by
  obtain ⟨d, h1, h2, h3⟩ := item_is e hk
  rw [bit_of, h3, cut_bit hn hw hs (by omega)] at hc
  rw [sg_at h1, Bool.and_eq_true] at hc
  have hd : d = 44 := by simpa using hc.1
  have hp : inAt x.cps.toList pre.length = false := by simpa using hc.2
  subst hd
  obtain ⟨_, _, b1, b2, b3⟩ := id h
  refine iinv_snoc h h1 ?_ ?_ (by show 0 ≤ _; omega) (by rw [List.length_append, List.length_singleton]; omega) fun z hz => ?_
  · rw [hp]; rfl
  · rw [hp]; rfl
  · rcases List.mem_append.mp hz with hz | hz
    · have := b3 z hz; omega
    · rw [List.mem_singleton.mp hz]; omega
theorem iw2 (h : IInv x pre items part) (e : k = 0 + (pre.length : Int)) (hk : pre.length < ((x.length : Int) - 0).toNat) (hn : NInv x (rangeKs 0 ((x.length : Int) - 0).toNat) s m c) (hw : WInv x q step) (hs : ¬ step < (x.length : Int))
    (hc : ¬ bitAnd ((bitAnd c (bitNot q)).fdiv (2 ^ k.toNat)) 1 ≠ 0)
    (hg : bitAnd ((bitAnd q (bitAnd s (bitOr (bitAnd ((1 * 2 ^ (2 * (x.length : Int) + 2).toNat - 1 : Int).fdiv 3) (bitNot (s + bitAnd (bitAnd s (bitNot (s * 2 ^ Int.toNat 1))) ((1 * 2 ^ (2 * (x.length : Int) + 2).toNat - 1 : Int).fdiv 3)))) (bitAnd (bitNot ((1 * 2 ^ (2 * (x.length : Int) + 2).toNat - 1 : Int).fdiv 3)) (bitNot (s + bitAnd (bitAnd s (bitNot (s * 2 ^ Int.toNat 1))) (bitNot ((1 * 2 ^ (2 * (x.length : Int) + 2).toNat - 1 : Int).fdiv 3)))))))).fdiv (2 ^ k.toNat)) 1 ≠ 0) : IInv x (pre ++ [k]) items part := by
  obtain ⟨d, h1, h2, h3⟩ := item_is e hk
  have hg' := (bit_of (bitAnd q (bitAnd s (bitOr (bitAnd (EE x) (bitNot (s + bitAnd (BB s) (EE x)))) (bitAnd (bitNot (EE x)) (bitNot (s + bitAnd (BB s) (bitNot (EE x)))))))) k.toNat).mp hg
  rw [h3, gone_bit hn hw hs (by omega), sg_at h1, Bool.and_eq_true, Bool.and_eq_true] at hg'
  have hd : d = 92 := by simpa using hg'.1.2
  have hp : inAt x.cps.toList pre.length = true := hg'.1.1
  have ho : oddAt x.cps.toList pre.length = false := by simpa using hg'.2
  subst hd
  obtain ⟨_, _, b1, b2, b3⟩ := id h
  refine iinv_snoc h h1 ?_ ?_ (by omega) (by omega) fun z hz => ?_
  · rw [hp, ho]; rfl
  · rw [hp, ho]; rfl
  · have := b3 z hz; omega
theorem iw3 (h : IInv x pre items part) (e : k = 0 + (pre.length : Int)) (hk : pre.length < ((x.length : Int) - 0).toNat) (hn : NInv x (rangeKs 0 ((x.length : Int) - 0).toNat) s m c) (hw : WInv x q step) (hs : ¬ step < (x.length : Int))
    (hc : ¬ bitAnd ((bitAnd c (bitNot q)).fdiv (2 ^ k.toNat)) 1 ≠ 0)
    (hg : ¬ bitAnd ((bitAnd q (bitAnd s (bitOr (bitAnd ((1 * 2 ^ (2 * (x.length : Int) + 2).toNat - 1 : Int).fdiv 3) (bitNot (s + bitAnd (bitAnd s (bitNot (s * 2 ^ Int.toNat 1))) ((1 * 2 ^ (2 * (x.length : Int) + 2).toNat - 1 : Int).fdiv 3)))) (bitAnd (bitNot ((1 * 2 ^ (2 * (x.length : Int) + 2).toNat - 1 : Int).fdiv 3)) (bitNot (s + bitAnd (bitAnd s (bitNot (s * 2 ^ Int.toNat 1))) (bitNot ((1 * 2 ^ (2 * (x.length : Int) + 2).toNat - 1 : Int).fdiv 3)))))))).fdiv (2 ^ k.toNat)) 1 ≠ 0) : IInv x (pre ++ [k]) items (part ++ Txt.item x k) := by
  obtain ⟨d, h1, h2, h3⟩ := item_is e hk
  have hg' := fun y => hg ((bit_of (bitAnd q (bitAnd s (bitOr (bitAnd (EE x) (bitNot (s + bitAnd (BB s) (EE x)))) (bitAnd (bitNot (EE x)) (bitNot (s + bitAnd (BB s) (bitNot (EE x)))))))) k.toNat).mpr y)
  have hc' := fun y => hc ((bit_of (bitAnd c (bitNot q)) k.toNat).mpr y)
  rw [h3, gone_bit hn hw hs (by omega), sg_at h1] at hg'
  rw [h3, cut_bit hn hw hs (by omega), sg_at h1] at hc'
  rw [h2]
  obtain ⟨_, _, b1, b2, b3⟩ := id h
  have l1 : (⟨#[d]⟩ : Str).length = 1 := rfl
  refine iinv_snoc h h1 ?_ ?_ (by rw [Str.length_append, l1]; omega) (by omega) fun z hz => ?_
  · unfold nstep
    generalize oddAt x.cps.toList pre.length = o at *
    generalize inAt x.cps.toList pre.length = p at *
    by_cases e1 : d = 92
    · simp [e1]
    · by_cases e2 : d = 34
      · simp [e2]
      · by_cases e3 : d = 44
        · cases p
          · exact absurd (by simp [e3]) hc'
          · simp [e3]
        · simp [e1, e2, e3]
  · unfold nstep
    generalize oddAt x.cps.toList pre.length = o at *
    generalize inAt x.cps.toList pre.length = p at *
    by_cases e1 : d = 92
    · cases o <;> cases p <;> simp [e1] at hg' ⊢
    · by_cases e2 : d = 34
      · simp [e2]
      · by_cases e3 : d = 44
        · cases p
          · exact absurd (by simp [e3]) hc'
          · simp [e3]
        · simp [e1, e2, e3]
  · have := b3 z hz; omega
theorem ix1 (h : IInv x (rangeKs 0 ((x.length : Int) - 0).toNat) items part) (hp : (part != Str.ofString "") = true) : items ++ [part] = numItems x := by
  have hp' : part ≠ Str.ofString "" := by simpa using hp
  obtain ⟨h1, h2, _⟩ := h
  rw [ints_len, len_is, List.take_length] at h1 h2
  unfold numItems; rw [← h1, ← h2]; simp only [if_neg hp']
theorem ix2 (h : IInv x (rangeKs 0 ((x.length : Int) - 0).toNat) items part) (hp : (part != Str.ofString "") = false) : items = numItems x := by
  have hp' : part = Str.ofString "" := by simpa using hp
  obtain ⟨h1, h2, _⟩ := h
  rw [ints_len, len_is, List.take_length] at h1 h2
  unfold numItems; rw [← h1, ← h2]; simp only [if_pos hp']
end
end Mine
/-! PeNum -/
namespace Mine
local macro_rules | `(tactic| walk_at "no such key 0") => `(tactic| fail "none")
set_option maxRecDepth 100000
set_option maxHeartbeats 8000000
theorem says_use {f : Addr} {pre : Prop} {vs : List Value} {R : Tok → Value} (H : Says f pre vs R) {w : World} {mean : ExcName → Option Value} {mg mb : Str → Option Value} {news : List (Addr × Obj)} {dp un : Nat} {gd : Option (List Code)} {cn : Str} {cs : Scope} {a : Addr} {ccd : Value} {cl : List (Str × Addr)} {outer : List Env} {A₀ : Around} {base h₀ : Heap} {L : Addr} {m : Str → Option Value} {s : Shared} {Q E : Value → Shared → Prop}
    (k1 : Below A₀ base outer h₀) (k2 : Fr h₀ L s.heap m) (k3 : (hd.heap_39 w.params).In h₀) (k4 : News h₀ L s.heap news) (k5 : Top hd.view_39 (looseW hd.view_39 []) mean mg mb h₀) (k6 : cs.kind = .function) (hp : pre)
    (k7 : dp + 1 < recursionLimit) (k8 : un + 8 < cLine)
    (h : ∀ (t : Tok) (h' : Heap) (tk' : Nat), Fr h₀ L h' m → News h₀ L h' news → Q (R t) { s with heap := h', toks := tk' }) :
      wpAny (model Challenge.rw_pe0073_01.row.prog w) (ktrTop dp un gd cn cs L a ccd cl outer) (call (.ref f) vs) Q E s :=
  H w mean mg mb news dp un gd cn cs a ccd cl outer A₀ base h₀ L m s Q E k1 k2 k3 k4 k5 k6 hp k7 k8 h
local macro_rules | `(tactic| walk_at "call ref") => `(tactic| (k_here; (with_reducible show wpAny _ _ (call (Value.ref _) _) _ _ _); k_dflt (first | refine' says_use (t_and _ _ _ _) ?k1 ?k2 ?k3 ?k4 ?k5 ?k6 ?kp ?k7 ?k8 ?_ | refine' says_use (t_or _ _ _ _) ?k1 ?k2 ?k3 ?k4 ?k5 ?k6 ?kp ?k7 ?k8 ?_ | refine' says_use (t_inv _ _) ?k1 ?k2 ?k3 ?k4 ?k5 ?k6 ?kp ?k7 ?k8 ?_ | refine' says_use (t_xor _ _ _ _) ?k1 ?k2 ?k3 ?k4 ?k5 ?k6 ?kp ?k7 ?k8 ?_ | refine' says_use (t_add _ _ _ _) ?k1 ?k2 ?k3 ?k4 ?k5 ?k6 ?kp ?k7 ?k8 ?_ | refine' says_use (t_sub _ _ _ _) ?k1 ?k2 ?k3 ?k4 ?k5 ?k6 ?kp ?k7 ?k8 ?_ | refine' says_use (t_truth _ _) ?k1 ?k2 ?k3 ?k4 ?k5 ?k6 ?kp ?k7 ?k8 ?_ | refine' says_use (t_lshift _ _ _ _) ?k1 ?k2 ?k3 ?k4 ?k5 ?k6 ?kp ?k7 ?k8 ?_ | refine' says_use (t_rshift _ _ _ _) ?k1 ?k2 ?k3 ?k4 ?k5 ?k6 ?kp ?k7 ?k8 ?_ | refine' says_use (t_floordiv3 _ _ _) ?k1 ?k2 ?k3 ?k4 ?k5 ?k6 ?kp ?k7 ?k8 ?_); k_dflt ((case k1 => k_asm); (case k2 => k_asm); (case k3 => k_asm); (case k4 => k_asm); (case k5 => k_asm); (case k6 => first | exact rfl | assumption); (case kp => first | with_reducible exact True.intro | (with_reducible exact ls2 (by assumption) (by assumption)) | (with_reducible exact ls3 (by assumption) (by assumption)) | (with_reducible refine ls1 ?_ ?_; omega; omega) | ((with_reducible show (0 : Int) ≤ _); omega)); (case k7 => ktr_room); (case k8 => ktr_units); k_whole); intro t' h' tk' F' N'; (try dsimp only); (try k_sweep); (try k_fold)))
local macro_rules | `(tactic| kst_facts) => `(tactic| ((try dsimp only); first | exact True.intro | exact StrsAre.nil | with_reducible assumption | exact StrsAre.append' (by with_reducible assumption) (.cons _ _ .nil)))
local macro_rules | `(tactic| walk_at "inplaceOp Add str str") => `(tactic| (k_here; refine PyProof.Rows.iadd_str ?_ (by exact isizeP (by assumption) (by assumption) (by assumption) _ _); intro _ _))
local macro_rules | `(tactic| walk_at "call builtin:list.append") => `(tactic| (k_here; (with_reducible show wpAny _ _ (call (Value.builtin _) [Value.ref _, _]) _ _ _); k_dflt (refine' append_K ?k1 ?k2 ?k3 ?_ ?z; (case k1 => k_asm); (case k2 => k_asm); (case k3 => k_upd); (case z => first | with_reducible exact isizeA (by assumption) (by assumption) (by assumption) (by assumption) | with_reducible exact isizeB (by assumption) (by assumption) (by assumption)); k_whole); intro h' F' N'; (try k_sweep)))
local macro_rules | `(tactic| walk_at "eval ListComp") => `(tactic| (k_here; k_dflt (refine LCg.ListComp_U (F₀ := by k_asm) (by with_unfolding_all rfl) (by decide) (by rfl) (by decide) (by rfl) ?_)))
local macro_rules | `(tactic| walk_at "CompSrc") => `(tactic| (k_here; (rename News _ _ _ _ => nE'); (try simp only [List.push_toArray] at nE'); k_dflt (refine comp_src stripBT (by rfl) (by k_asm) nE' (by k_memK) (by first | with_reducible assumption | exact StrsAre.append' (by with_reducible assumption) (.cons _ _ .nil)) (by first | exact icompA (by assumption) (by assumption) | exact icompA' (by assumption) (by assumption)) (by first | exact icompB (by assumption) (by assumption) | exact icompB' (by assumption) (by assumption)) (fun s' z' t' I' oI' C' oC' D' m' ys' h' tk' E' hz' hC' hx' F' N' => ?_) (fun ys' D' h' tk' hS' F' N' o1' => ?_)); (all_goals (try simp only [LCg.Off1, and_true] at o1')); (all_goals (try dsimp only))))
local macro_rules | `(tactic| walk_at "call builtin:str.strip") => `(tactic| (k_here; refine SC.stripChars (fun t' k' => ?_) (by assumption)))
local macro_rules | `(tactic| walk_at "Exists") => `(tactic| exact ⟨_, _, rfl, rfl⟩)
local macro_rules | `(tactic| kst_same) => `(tactic| (intro z h1 h2 h3; (simp only [List.forall_mem_cons, List.not_mem_nil, false_implies, implies_true, and_true, ne_eq] at h2); (try simp only [List.contains_cons, List.contains_nil, Bool.or_false, Bool.or_eq_false_iff, beq_eq_false_iff_ne, ne_eq] at h3); (simp only [h1, h2, h3, List.contains_cons, List.contains_nil, Bool.or_false, Bool.false_eq_true, if_false]; done)))
local macro_rules | `(tactic| ksw_same) => `(tactic| (intro z h2 h3; (simp only [List.forall_mem_cons, List.not_mem_nil, false_implies, implies_true, and_true, ne_eq] at h2); (try simp only [List.contains_cons, List.contains_nil, Bool.or_false, Bool.or_eq_false_iff, beq_eq_false_iff_ne, ne_eq] at h3); (simp only [h2, h3, List.contains_cons, List.contains_nil, Bool.or_false, Bool.false_eq_true, if_false]; done)))
local macro_rules | `(tactic| kst_in) => `(tactic| ((try dsimp only); (try simp only [List.nil_append, List.cons_append]); kst_anyIn))
theorem t_numbers (x : Str) (tx : Tok) (w : World) (mean : ExcName → Option Value) (mg mb : Str → Option Value) (news : List (Addr × Obj)) (dp un : Nat) (gd : Option (List Code)) (cn : Str) (cs : Scope) (a : Addr) (ccd : Value) (cl : List (Str × Addr)) (outer : List Env) (A₀ : Around) (base h₀ : Heap) (L : Addr) (m : Str → Option Value) (s : Shared) (Q E : Value → Shared → Prop) :
    Below A₀ base outer h₀ → Fr h₀ L s.heap m → (hd.heap_39 w.params).In h₀ → News h₀ L s.heap news → Top hd.view_39 (looseW hd.view_39 []) mean mg mb h₀ → cs.kind = .function →
    x.length ≤ 1000 → dp + 2 < recursionLimit → un + 16 < cLine →
    (∀ (r : Addr) (rs : List Value) (c' : Nat) (h' : Heap) (tk' : Nat), Fr h₀ L h' m → News h₀ L h' ((r, listOf rs.toArray c') :: news) → StrsAre rs ((numItems x).map stripBT) → Q (.ref r) { s with heap := h', toks := tk' }) →
      wpAny (model Challenge.rw_pe0073_01.row.prog w) (ktrTop dp un gd cn cs L a ccd cl outer) (call (.ref 106) [.str x tx]) Q E s := by
  k_with_none
  w_top off
  k_fill; intros; rename_i hret
  k_with "pyIter ref" => k_state (fun pre slashes marks commas => NInv x pre slashes marks commas) "slashes" "marks" "commas"
  k_with "pyIter ref" => k_state (fun pre items part => IInv x pre items part) "items$" "part"
  k_with "exec While Compare cons nil" => k_while (fun _ quoted step => WInv x quoted step) (fun _ quoted step => x.length - step.toNat) "quoted" "step"
  k_with "state" => first | with_reducible exact n_nil | with_reducible exact i_nil | with_reducible exact nw1 (by assumption) (by assumption) (by assumption) (by assumption) | with_reducible exact nw2 (by assumption) (by assumption) (by assumption) (by assumption) (by assumption) | with_reducible exact nw3 (by assumption) (by assumption) (by assumption) (by assumption) (by assumption) (by assumption) | with_reducible exact nw4 (by assumption) (by assumption) (by assumption) (by assumption) (by assumption) (by assumption) | with_reducible exact w_start (by assumption) | with_reducible exact w_step (by assumption) (by assumption) | with_reducible exact iw1 (by assumption) (by assumption) (by assumption) (by assumption) (by assumption) (by assumption) (by assumption) | with_reducible exact iw2 (by assumption) (by assumption) (by assumption) (by assumption) (by assumption) (by assumption) (by assumption) (by assumption) | with_reducible exact iw3 (by assumption) (by assumption) (by assumption) (by assumption) (by assumption) (by assumption) (by assumption) (by assumption)
  k_with "measure" => with_reducible exact w_less (by assumption) (by assumption)
  refine wpAny_call ?_
  w_strict (k_dflt cell_enter)
  k_steps
  all_goals (refine texts_end hret (by k_asm) (by assumption) (by with_reducible assumption) ?_)
  all_goals first | exact ix1 (by with_reducible assumption) (by with_reducible assumption) | exact ix2 (by with_reducible assumption) (by with_reducible assumption)
end Mine
/-! PePure -/
namespace Mine
set_option maxRecDepth 100000
theorem mod_cases2 (m : Int) : m.fmod 2 = 0 ∨ m.fmod 2 = 1 := by
  have h1 := Int.fmod_nonneg_of_pos m (b := 2) (by decide)
  have h2 := Int.fmod_lt_of_pos m (b := 2) (by decide)
  omega
theorem mod_cases3 (m : Int) : m.fmod 3 = 0 ∨ m.fmod 3 = 1 ∨ m.fmod 3 = 2 := by
  have h1 := Int.fmod_nonneg_of_pos m (b := 3) (by decide)
  have h2 := Int.fmod_lt_of_pos m (b := 3) (by decide)
  omega
theorem mod_cases4 (m : Int) : m.fmod 4 = 0 ∨ m.fmod 4 = 1 ∨ m.fmod 4 = 2 ∨ m.fmod 4 = 3 := by
  have h1 := Int.fmod_nonneg_of_pos m (b := 4) (by decide)
  have h2 := Int.fmod_lt_of_pos m (b := 4) (by decide)
  omega
theorem mod_cases8 (m : Int) : m.fmod 8 = 0 ∨ m.fmod 8 = 1 ∨ m.fmod 8 = 2 ∨ m.fmod 8 = 3 ∨ m.fmod 8 = 4 ∨ m.fmod 8 = 5 ∨ m.fmod 8 = 6 ∨ m.fmod 8 = 7 := by
  have h1 := Int.fmod_nonneg_of_pos m (b := 8) (by decide)
  have h2 := Int.fmod_lt_of_pos m (b := 8) (by decide)
  omega
theorem it2 (m : Int) : ∃ c, (c = 32 ∨ c = 9) ∧ Txt.item (Str.ofString " \t") (m.fmod 2) = ⟨#[c]⟩ := by
  rcases mod_cases2 m with h | h <;> rw [h]
  · exact ⟨32, by decide, by decide +kernel⟩
  · exact ⟨9, by decide, by decide +kernel⟩
theorem it6 (m : Int) : ∃ c, (c = 97 ∨ c = 39 ∨ c = 61 ∨ c = 59) ∧ Txt.item (Str.ofString "a'=;") (m.fmod 4) = ⟨#[c]⟩ := by
  rcases mod_cases4 m with h | h | h | h <;> rw [h]
  · exact ⟨97, by decide, by decide +kernel⟩
  · exact ⟨39, by decide, by decide +kernel⟩
  · exact ⟨61, by decide, by decide +kernel⟩
  · exact ⟨59, by decide, by decide +kernel⟩
theorem it5 (m : Int) : ∃ c, (c = 44 ∨ c = 32 ∨ c = 97 ∨ c = 39) ∧ Txt.item (Str.ofString ", a'") (m.fmod 4) = ⟨#[c]⟩ := by
  rcases mod_cases4 m with h | h | h | h <;> rw [h]
  · exact ⟨44, by decide, by decide +kernel⟩
  · exact ⟨32, by decide, by decide +kernel⟩
  · exact ⟨97, by decide, by decide +kernel⟩
  · exact ⟨39, by decide, by decide +kernel⟩
theorem it7 (m : Int) : 19968 ≤ (19968 + m.fmod 20000).toNat ∧ (19968 + m.fmod 20000).toNat < 40000 := by
  have h1 := Int.fmod_nonneg_of_pos m (b := 20000) (by decide)
  have h2 := Int.fmod_lt_of_pos m (b := 20000) (by decide)
  omega
theorem sm (n : Int) : some_ n = ⟨#[92]⟩ ∨ some_ n = ⟨#[92, 92]⟩ ∨ some_ n = ⟨#[92, 92, 92]⟩ := by
  unfold some_
  rcases mod_cases3 (n.fdiv 8) with h | h | h <;> rw [h]
  · exact .inl (by decide +kernel)
  · exact .inr (.inl (by decide +kernel))
  · exact .inr (.inr (by decide +kernel))
theorem z_is : Str.ofString "z" = ⟨#[122]⟩ := by decide +kernel
theorem bsdq_is : Str.ofString "\\\"" = ⟨#[92, 34]⟩ := by decide +kernel
theorem nil_is : Str.ofString "" = ⟨#[]⟩ := by decide +kernel
theorem app_l (p : Str) (a b : Array Nat) : p ++ (⟨a⟩ : Str) ++ (⟨b⟩ : Str) = p ++ (⟨a ++ b⟩ : Str) := by
  refine Str.ext' ?_
  rw [Str.cps_append, Str.cps_append, Str.cps_append]
  exact Array.append_assoc
theorem app_c (a b : Array Nat) : (⟨a⟩ : Str) ++ (⟨b⟩ : Str) = ⟨a ++ b⟩ := Str.ext' (Str.cps_append _ _)
theorem app_n (p : Str) : p ++ (⟨#[]⟩ : Str) = p := by
  refine Str.ext' ?_
  rw [Str.cps_append]
  exact Array.append_empty
def good (c : Nat) : Prop := c ∈ [32, 9, 97, 39, 61, 59, 34, 44, 92, 122] ∨ (19968 ≤ c ∧ c < 40000)
/-- what a piece is: its signs as written and as kept -/
inductive PieceIs : Bool → Int → List Nat → List Nat → Prop where
  | plain {b : Bool} {n : Int} {c : Nat} (h2 : hcut b n = false) (h3 : hflip b n = false) (hc : c ≠ 92) (hd : c ≠ 34) (he : c ≠ 44) (hg : good c) : PieceIs b n [c] [c]
  | mark {b : Bool} {n : Int} (h2 : hcut b n = false) (h3 : hflip b n = true) : PieceIs b n [34] [34]
  | comma {n : Int} (h2 : hcut true n = false) (h3 : hflip true n = false) : PieceIs true n [44] [44]
  | slashes {n : Int} {k : Nat} (h2 : hcut true n = false) (h3 : hflip true n = false) (hk : k = 1 ∨ k = 2 ∨ k = 3) : PieceIs true n (List.replicate k 92 ++ List.replicate k 92) (List.replicate k 92)
  | esc {n : Int} {c : Nat} (h2 : hcut true n = false) (h3 : hflip true n = false) (hc : c = 34 ∨ c = 44 ∨ c = 32 ∨ c = 97 ∨ c = 39) : PieceIs true n [92, c] [c]
  | cut {n : Int} {k : Nat} (h2 : hcut false n = true) (h3 : hflip false n = false) (hk : k = 0 ∨ k = 1 ∨ k = 2 ∨ k = 3) : PieceIs false n (List.replicate k 92 ++ [44]) (List.replicate k 92)
  | zed {n : Int} {k : Nat} (h2 : hcut false n = false) (h3 : hflip false n = false) (hk : k = 1 ∨ k = 2 ∨ k = 3) : PieceIs false n (List.replicate k 92 ++ [122]) (List.replicate k 92 ++ [122])
theorem smk (n : Int) : ∃ k, (k = 1 ∨ k = 2 ∨ k = 3) ∧ some_ n = ⟨(List.replicate k 92).toArray⟩ := by
  rcases sm n with h | h | h
  · exact ⟨1, by decide, h⟩
  · exact ⟨2, by decide, h⟩
  · exact ⟨3, by decide, h⟩
theorem piece_is (n : Int) (b : Bool) : ∃ w k, pieceW n b = ⟨w.toArray⟩ ∧ pieceK n b = ⟨k.toArray⟩ ∧ PieceIs b n w k := by
  rcases mod_cases8 n with h | h | h | h | h | h | h | h
  · cases b
    · refine ⟨[44], [], ?_, ?_, .cut (k := 0) (by simp [hcut, h]) (by simp [hflip, h]) (by decide)⟩
      · simp [pieceW, h, cm_is]
      · simp [pieceK, h, nil_is]
    · refine ⟨[44], [44], ?_, ?_, .comma (by simp [hcut]) (by simp [hflip, h])⟩
      · simp [pieceW, h, cm_is]
      · simp [pieceK, h, cm_is]
  · refine ⟨[34], [34], ?_, ?_, .mark (by simp [hcut, h]) (by simp [hflip, h])⟩
    · simp [pieceW, h, dq_is]
    · simp [pieceK, h, dq_is]
  · obtain ⟨c, hc, e⟩ := it2 (n.fdiv 8)
    refine ⟨[c], [c], ?_, ?_, .plain (by simp [hcut, h]) (by simp [hflip, h]) (by omega) (by omega) (by omega) (.inl (by rcases hc with rfl | rfl <;> decide))⟩
    · simp [pieceW, h, e]
    · simp [pieceK, h, e]
  · obtain ⟨k, hk, e⟩ := smk n
    cases b
    · refine ⟨_, _, ?_, ?_, .cut (k := k) (by simp [hcut, h]) (by simp [hflip, h]) (by omega)⟩
      · simp only [pieceW, h, e, cm_is, app_c]; simp; rcases hk with rfl | rfl | rfl <;> rfl
      · simp only [pieceK, h, e]; simp
    · refine ⟨_, _, ?_, ?_, .slashes (k := k) (by simp [hcut]) (by simp [hflip, h]) hk⟩
      · simp only [pieceW, h, e, app_c]; simp
      · simp only [pieceK, h, e]; simp
  · obtain ⟨k, hk, e⟩ := smk n
    cases b
    · refine ⟨_, _, ?_, ?_, .zed (k := k) (by simp [hcut, h]) (by simp [hflip, h]) hk⟩
      · simp only [pieceW, h, e, z_is, app_c]; simp; rcases hk with rfl | rfl | rfl <;> rfl
      · simp only [pieceK, h, e, z_is, app_c]; simp; rcases hk with rfl | rfl | rfl <;> rfl
    · refine ⟨_, _, ?_, ?_, .esc (c := 34) (by simp [hcut]) (by simp [hflip, h]) (by decide)⟩
      · simp [pieceW, h, bsdq_is]
      · simp [pieceK, h, dq_is]
  · cases b
    · refine ⟨[34], [34], ?_, ?_, .mark (by simp [hcut, h]) (by simp [hflip, h])⟩
      · simp [pieceW, h, dq_is]
      · simp [pieceK, h, dq_is]
    · obtain ⟨c, hc, e⟩ := it5 (n.fdiv 8)
      refine ⟨_, _, ?_, ?_, .esc (c := c) (by simp [hcut]) (by simp [hflip, h]) (by omega)⟩
      · simp only [pieceW, h, e, bs_is, app_c]; simp
      · simp [pieceK, h, e]
  · obtain ⟨c, hc, e⟩ := it6 (n.fdiv 8)
    refine ⟨[c], [c], ?_, ?_, .plain (by simp [hcut, h]) (by simp [hflip, h]) (by omega) (by omega) (by omega) (.inl (by rcases hc with rfl | rfl | rfl | rfl <;> decide))⟩
    · simp [pieceW, h, e]
    · simp [pieceK, h, e]
  · have hc := it7 (n.fdiv 8)
    refine ⟨[_], [_], ?_, ?_, .plain (c := (19968 + (n.fdiv 8).fmod 20000).toNat) (by simp [hcut, h]) (by simp [hflip, h]) (by omega) (by omega) (by omega) (.inr hc)⟩
    · simp [pieceW, h]
    · simp [pieceK, h]
theorem p_piece {b : Bool} {n : Int} {w k : List Nat} (h : PieceIs b n w k) (i : List Str) (p : Str) :
    w.foldl pstep (i, p, false, b) = ((if hcut b n = true then i ++ [p ++ ⟨k.toArray⟩] else i), (if hcut b n = true then Str.ofString "" else p ++ ⟨k.toArray⟩), false, if hflip b n = true then !b else b) := by
  cases h with
  | plain h2 h3 hc hd he hg => cases b <;> simp [pstep, h2, h3, hc, hd, he]
  | mark h2 h3 => cases b <;> simp [pstep, h2, h3]
  | comma h2 h3 => simp [pstep, h2, h3]
  | slashes h2 h3 hk => rcases hk with rfl | rfl | rfl <;> simp [pstep, h2, h3, List.replicate, app_l]
  | esc h2 h3 hc => rcases hc with rfl | rfl | rfl | rfl | rfl <;> simp [pstep, h2, h3]
  | cut h2 h3 hk => rcases hk with rfl | rfl | rfl | rfl <;> simp [pstep, h2, h3, List.replicate, app_l, app_n]
  | zed h2 h3 hk => rcases hk with rfl | rfl | rfl <;> simp [pstep, h2, h3, List.replicate, app_l]
theorem n_piece {b : Bool} {n : Int} {w k : List Nat} (h : PieceIs b n w k) (i : List Str) (p : Str) :
    w.foldl nstep (i, p, false, b) = ((if hcut b n = true then i ++ [p ++ ⟨k.toArray⟩] else i), (if hcut b n = true then Str.ofString "" else p ++ ⟨k.toArray⟩), false, if hflip b n = true then !b else b) := by
  cases h with
  | plain h2 h3 hc hd he hg => cases b <;> simp [nstep, h2, h3, hc, hd, he]
  | mark h2 h3 => cases b <;> simp [nstep, h2, h3]
  | comma h2 h3 => simp [nstep, h2, h3]
  | slashes h2 h3 hk => rcases hk with rfl | rfl | rfl <;> simp [nstep, h2, h3, List.replicate, app_l]
  | esc h2 h3 hc => rcases hc with rfl | rfl | rfl | rfl | rfl <;> simp [nstep, h2, h3]
  | cut h2 h3 hk => rcases hk with rfl | rfl | rfl | rfl <;> simp [nstep, h2, h3, List.replicate, app_l, app_n]
  | zed h2 h3 hk => rcases hk with rfl | rfl | rfl <;> simp [nstep, h2, h3, List.replicate, app_l]
theorem k_good {b : Bool} {n : Int} {w k : List Nat} (h : PieceIs b n w k) : ∀ c ∈ k, good c := by
  have g92 : good 92 := .inl (by decide)
  have g122 : good 122 := .inl (by decide)
  cases h with
  | plain h2 h3 hc hd he hg => intro c hc; rw [List.mem_singleton.mp hc]; exact hg
  | mark h2 h3 => intro c hc; rw [List.mem_singleton.mp hc]; exact .inl (by decide)
  | comma h2 h3 => intro c hc; rw [List.mem_singleton.mp hc]; exact .inl (by decide)
  | slashes h2 h3 hk => intro c hc; rw [(List.mem_replicate.mp hc).2]; exact g92
  | esc h2 h3 hc => intro c hc'; rw [List.mem_singleton.mp hc']; rcases hc with rfl | rfl | rfl | rfl | rfl <;> exact .inl (by decide)
  | cut h2 h3 hk => intro c hc; rw [(List.mem_replicate.mp hc).2]; exact g92
  | zed h2 h3 hk =>
    intro c hc
    rcases List.mem_append.mp hc with hc | hc
    · rw [(List.mem_replicate.mp hc).2]; exact g92
    · rw [List.mem_singleton.mp hc]; exact g122
def HG (st : HS) : Prop :=
  pfold st.1.cps.toList = (st.2.1, st.2.2.1, false, st.2.2.2) ∧ nfold st.1.cps.toList = (st.2.1, st.2.2.1, false, st.2.2.2) ∧ (∀ c ∈ st.2.2.1.cps.toList, good c) ∧ ∀ z ∈ st.2.1, ∀ c ∈ z.cps.toList, good c
theorem hg_step {st : HS} (n : Int) (h : HG st) : HG (hstep st n) := by
  obtain ⟨T, i, p, b⟩ := st
  obtain ⟨h1, h2, h3, h4⟩ := h
  obtain ⟨w, k, ew, ek, hP⟩ := piece_is n b
  dsimp only at h1 h2 h3 h4
  have g0 : ∀ c ∈ (Str.ofString "").cps.toList, good c := by intro c hc; rw [nil_is] at hc; exact absurd hc (by simp)
  have g1 : ∀ c ∈ (p ++ pieceK n b).cps.toList, good c := by
    intro c hc
    rw [ek, Str.cps_append, Array.toList_append] at hc
    rcases List.mem_append.mp hc with hc | hc
    · exact h3 c hc
    · exact k_good hP c (by simpa using hc)
  unfold HG hstep
  dsimp only
  refine ⟨?_, ?_, ?_, ?_⟩
  · rw [Str.cps_append, Array.toList_append]
    unfold pfold at h1 ⊢
    rw [List.foldl_append, h1, ew, ek]
    exact p_piece hP i p
  · rw [Str.cps_append, Array.toList_append]
    unfold nfold at h2 ⊢
    rw [List.foldl_append, h2, ew, ek]
    exact n_piece hP i p
  · split
    · exact g0
    · exact g1
  · split
    · intro z hz
      rcases List.mem_append.mp hz with hz | hz
      · exact h4 z hz
      · rw [List.mem_singleton.mp hz]; exact g1
    · exact h4
theorem hg_fold (ns : List Int) : HG (hfold ns) := by
  have key : ∀ (ns : List Int) (st : HS), HG st → HG (ns.foldl hstep st) := by
    intro ns
    induction ns with
    | nil => exact fun _ h => h
    | cons n r ih => exact fun st h => ih _ (hg_step n h)
  refine key ns _ ⟨rfl, rfl, ?_, ?_⟩
  · intro c hc; rw [nil_is] at hc; exact absurd hc (by simp)
  · intro z hz; exact absurd hz (by simp)
theorem par_is (ns : List Int) (lone : Bool) : parItems (hdrText ns lone) = hdrItems ns := by
  obtain ⟨h1, _⟩ := hg_fold ns
  have e : (pfold (hdrText ns lone).cps.toList).1 = (hfold ns).2.1 ∧ (pfold (hdrText ns lone).cps.toList).2.1 = (hfold ns).2.2.1 := by
    unfold hdrText
    split
    · rename_i hi
      split
      · rw [bs_is, Str.cps_append, Array.toList_append]
        unfold pfold at h1 ⊢
        rw [List.foldl_append, h1, hi]
        exact ⟨rfl, rfl⟩
      · rw [h1]; exact ⟨rfl, rfl⟩
    · rw [h1]; exact ⟨rfl, rfl⟩
  unfold parItems hdrItems
  rw [e.1, e.2]
theorem num_is (ns : List Int) (lone : Bool) : numItems (hdrText ns lone) = hdrItems ns := by
  obtain ⟨_, h1, _⟩ := hg_fold ns
  have e : (nfold (hdrText ns lone).cps.toList).1 = (hfold ns).2.1 ∧ (nfold (hdrText ns lone).cps.toList).2.1 = (hfold ns).2.2.1 := by
    unfold hdrText
    split
    · rename_i hi
      split
      · rw [bs_is, Str.cps_append, Array.toList_append]
        unfold nfold at h1 ⊢
        rw [List.foldl_append, h1, hi]
        exact ⟨rfl, rfl⟩
      · rw [h1]; exact ⟨rfl, rfl⟩
    · rw [h1]; exact ⟨rfl, rfl⟩
  unfold numItems hdrItems
  rw [e.1, e.2]
theorem within_big {c d : Nat} : ∀ {l : List (Nat × Nat)}, (l.all fun p => decide (p.2 < d)) = true → d ≤ c → Unicode.within l c = false
  | [], _, _ => rfl
  | (a, b) :: r, h, hc => by
    rw [List.all_cons, Bool.and_eq_true] at h
    have hb : b < d := by simpa using h.1
    unfold Unicode.within
    split
    · rfl
    · rw [within_big h.2 hc]
      have : ¬ c ≤ b := by omega
      simp [this]
theorem good_space {c : Nat} (h : good c) : Unicode.isSpace c = (Str.ofString " \t").cps.contains c := by
  rcases h with h | h
  · have k : ∀ c ∈ [32, 9, 97, 39, 61, 59, 34, 44, 92, 122], Unicode.isSpace c = (Str.ofString " \t").cps.contains c := by decide +kernel
    exact k c h
  · have e : (Str.ofString " \t").cps = #[32, 9] := by decide +kernel
    have e1 : Unicode.isSpace c = false := within_big (d := 19968) (by decide +kernel) h.1
    rw [e, e1]
    have a : c ≠ 32 := by omega
    have b : c ≠ 9 := by omega
    simp [a, b]
theorem take_same {p q : Nat → Bool} : ∀ {l : List Nat}, (∀ c ∈ l, p c = q c) → l.takeWhile p = l.takeWhile q
  | [], _ => rfl
  | c :: r, h => by
    rw [List.takeWhile_cons, List.takeWhile_cons, h c (.head _), take_same fun d hd => h d (.tail _ hd)]
theorem strip_is {z : Str} (h : ∀ c ∈ z.cps.toList, good c) : Txt.strip z = stripBT z := by
  have hp : ∀ c ∈ z.cps.toList, Unicode.isSpace c = (Str.ofString " \t").cps.contains c := fun c hc => good_space (h c hc)
  show Txt.stripBy Unicode.isSpace true true z = Txt.stripBy (Str.ofString " \t").cps.contains true true z
  rw [PyProof.Rows.stripBy_eq, PyProof.Rows.stripBy_eq]
  have e1 : stripLo Unicode.isSpace true z = stripLo (Str.ofString " \t").cps.contains true z := by
    show (z.cps.toList.takeWhile Unicode.isSpace).length = (z.cps.toList.takeWhile (Str.ofString " \t").cps.contains).length
    rw [take_same hp]
  rw [e1]
  congr 1
  show z.length - ((z.cps.toList.drop _).reverse.takeWhile Unicode.isSpace).length = z.length - ((z.cps.toList.drop _).reverse.takeWhile (Str.ofString " \t").cps.contains).length
  rw [take_same fun c hc => hp c (List.mem_of_mem_drop (List.mem_reverse.mp hc))]
theorem hdr_good (ns : List Int) : ∀ z ∈ hdrItems ns, ∀ c ∈ z.cps.toList, good c := by
  intro z hz
  obtain ⟨_, _, h3, h4⟩ := hg_fold ns
  unfold hdrItems at hz
  split at hz
  · exact h4 z hz
  · rcases List.mem_append.mp hz with hz | hz
    · exact h4 z hz
    · rw [List.mem_singleton.mp hz]; exact h3
theorem strip_mem {z : Str} {c : Nat} (h : c ∈ (stripBT z).cps.toList) : c ∈ z.cps.toList := by
  have e : stripBT z = Txt.stripBy (Str.ofString " \t").cps.contains true true z := rfl
  rw [e, PyProof.Rows.stripBy_eq, StrLaws.strSub_toList] at h
  exact List.mem_of_mem_drop (List.mem_of_mem_take h)
theorem due_ok (ns : List Int) : ((hdrItems ns).map stripBT).all PyData.strOk = true := by
  rw [List.all_eq_true]
  intro z hz
  obtain ⟨y, hy, rfl⟩ := List.mem_map.mp hz
  unfold PyData.strOk
  rw [Array.all_eq_true_iff_forall_mem]
  intro c hc
  have hg := hdr_good ns y hy c (strip_mem (by simpa using hc))
  rw [decide_eq_true_eq]
  rcases hg with hg | hg
  · have k : ∀ c ∈ [32, 9, 97, 39, 61, 59, 34, 44, 92, 122], c < 0x110000 := by decide
    exact k c hg
  · omega
theorem par_due (ns : List Int) (lone : Bool) : (parItems (hdrText ns lone)).map Txt.strip = (hdrItems ns).map stripBT := by
  rw [par_is]
  exact List.map_congr_left fun z hz => strip_is (hdr_good ns z hz)
theorem num_due (ns : List Int) (lone : Bool) : (numItems (hdrText ns lone)).map stripBT = (hdrItems ns).map stripBT := by rw [num_is]
theorem text_len {ns : List Int} (lone : Bool) (hl : ns.length ≤ 40) : (hdrText ns lone).length ≤ 1000 := by
  have key : ∀ ns : List Int, HInv ns (hfold ns).1 (hfold ns).2.1 (hfold ns).2.2.1 (hfold ns).2.2.2 := by
    have k2 : ∀ (post pre : List Int) (st : HS), HInv pre st.1 st.2.1 st.2.2.1 st.2.2.2 → HInv (pre ++ post) (post.foldl hstep st).1 (post.foldl hstep st).2.1 (post.foldl hstep st).2.2.1 (post.foldl hstep st).2.2.2 := by
      intro post
      induction post with
      | nil => intro pre st h; simpa using h
      | cons n r ih =>
        intro pre st h
        have := ih (pre ++ [n]) (hstep st n) (hinv_step h rfl rfl rfl)
        simpa using this
    intro ns
    exact k2 ns [] _ hinv_nil
  have h1 := hsizeE (key ns) hl
  have h2 := lits_len
  unfold hdrText
  split
  · split
    · rw [Str.length_append]; omega
    · omega
  · omega
end Mine
/-! PeLaw -/
namespace Mine
set_option maxRecDepth 100000
set_option maxHeartbeats 8000000
section
variable {w : World} {mean : ExcName → Option Value} {mg mb : Str → Option Value} {dp un : Nat} {gd : Option (List Code)} {cn : Str} {cs : Scope} {a : Addr} {ccd : Value} {cl : List (Str × Addr)} {outer : List Env} {A₀ : Around} {base h₀ : Heap} {L : Addr} {m : Str → Option Value} {s : Shared} {Q E : Value → Shared → Prop}
theorem header_use {lone : Bool} {rest : List (Addr × Obj)} {vs : List Value} {ns : List Int} {l : Addr} {c₀ : Nat}
    (k1 : Below A₀ base outer h₀) (k2 : Fr h₀ L s.heap m) (k3 : (hd.heap_39 w.params).In h₀) (k4 : News h₀ L s.heap ((l, listOf vs.toArray c₀) :: rest)) (k5 : Top hd.view_39 (looseW hd.view_39 []) mean mg mb h₀) (k6 : cs.kind = .function)
    (hi : IntsAre vs ns) (hn : ns.length ≤ 40) (hl : AllLt l rest) (k7 : dp + 2 < recursionLimit) (k8 : un + 16 < cLine)
    (h : ∀ (D r : Addr) (t : Tok) (rs : List Value) (c c' : Nat) (h' : Heap) (tk' : Nat), Fr h₀ L h' m → News h₀ L h' ((D, tupSR (hdrText ns lone) r t c) :: (r, listOf rs.toArray c') :: (l, listOf vs.toArray c₀) :: rest) → StrsAre rs ((hdrItems ns).map stripBT) → ns.length ≤ 40 → Q (.ref D) { s with heap := h', toks := tk' }) :
      wpAny (model Challenge.rw_pe0073_01.row.prog w) (ktrTop dp un gd cn cs L a ccd cl outer) (call (.ref 101) [.ref l, .bool lone]) Q E s :=
  t_header lone w mean mg mb rest vs ns l c₀ dp un gd cn cs a ccd cl outer A₀ base h₀ L m s Q E k1 k2 k3 k4 k5 k6 hi hn hl k7 k8 fun D r t rs c c' h' tk' F N S => h D r t rs c c' h' tk' F N S hn
theorem parse_use {lone : Bool} {ns : List Int} {tx : Tok} {news : List (Addr × Obj)}
    (k1 : Below A₀ base outer h₀) (k2 : Fr h₀ L s.heap m) (k3 : (hd.heap_39 w.params).In h₀) (k4 : News h₀ L s.heap news) (k5 : Top hd.view_39 (looseW hd.view_39 []) mean mg mb h₀) (k6 : cs.kind = .function)
    (hn : ns.length ≤ 40) (k7 : dp + 1 < recursionLimit) (k8 : un + 8 < cLine)
    (h : ∀ (r : Addr) (rs : List Value) (c' : Nat) (h' : Heap) (tk' : Nat), Fr h₀ L h' m → News h₀ L h' ((r, listOf rs.toArray c') :: news) → StrsAre rs ((hdrItems ns).map stripBT) → Q (.ref r) { s with heap := h', toks := tk' }) :
      wpAny (model Challenge.rw_pe0073_01.row.prog w) (ktrTop dp un gd cn cs L a ccd cl outer) (call (.ref 19) [.str (hdrText ns lone) tx]) Q E s :=
  t_parse (hdrText ns lone) tx w mean mg mb news dp un gd cn cs a ccd cl outer A₀ base h₀ L m s Q E k1 k2 k3 k4 k5 k6 (text_len lone hn) k7 k8 fun r rs c' h' tk' F N S => h r rs c' h' tk' F N (by rw [par_due] at S; exact S)
theorem numbers_use {lone : Bool} {ns : List Int} {tx : Tok} {news : List (Addr × Obj)}
    (k1 : Below A₀ base outer h₀) (k2 : Fr h₀ L s.heap m) (k3 : (hd.heap_39 w.params).In h₀) (k4 : News h₀ L s.heap news) (k5 : Top hd.view_39 (looseW hd.view_39 []) mean mg mb h₀) (k6 : cs.kind = .function)
    (hn : ns.length ≤ 40) (k7 : dp + 2 < recursionLimit) (k8 : un + 16 < cLine)
    (h : ∀ (r : Addr) (rs : List Value) (c' : Nat) (h' : Heap) (tk' : Nat), Fr h₀ L h' m → News h₀ L h' ((r, listOf rs.toArray c') :: news) → StrsAre rs ((hdrItems ns).map stripBT) → Q (.ref r) { s with heap := h', toks := tk' }) :
      wpAny (model Challenge.rw_pe0073_01.row.prog w) (ktrTop dp un gd cn cs L a ccd cl outer) (call (.ref 106) [.str (hdrText ns lone) tx]) Q E s :=
  t_numbers (hdrText ns lone) tx w mean mg mb news dp un gd cn cs a ccd cl outer A₀ base h₀ L m s Q E k1 k2 k3 k4 k5 k6 (text_len lone hn) k7 k8 fun r rs c' h' tk' F N S => h r rs c' h' tk' F N (by rw [num_due] at S; exact S)
end
theorem same_strs : ∀ ts : List Str, PySem.Spec.sameAll (ts.map PyData.str) (ts.map PyData.str) = true
  | [] => rfl
  | t :: r => by simp only [List.map_cons, PySem.Spec.sameAll, PySem.Spec.same, same_strs r, beq_self_eq_true, Bool.and_true]
theorem depth_strs : ∀ ts : List Str, PyData.depthAll (ts.map PyData.str) = 0
  | [] => rfl
  | _ :: r => by simp [PyData.depthAll, PyData.depth, depth_strs r]
theorem shaped_strs {ts : List Str} (h : ts.all PyData.strOk = true) : SeqAt.shaped (.list (ts.map PyData.str)) = true := by
  simp only [SeqAt.shaped, PyData.canLay0, PyData.depth, canLayAll_strs', h, depth_strs]
  rfl
theorem eq_strs {prog : Program} {w : World} {A : Around} {E : Value → Shared → Prop} {s : Shared} {a b : Addr} {xs ys : List Value} {ts : List Str} {Q : Value → Shared → Prop}
    (ha : s.heap.IsList a xs.toArray) (hb : s.heap.IsList b ys.toArray) (hi : StrsAre xs ts) (hj : StrsAre ys ts) (hok : ts.all PyData.strOk = true) (hu : A.units + 64 < cLine) (h : Q (.bool true) s) :
    wpAny (model prog w) A (compareOp .Eq (.ref a) (.ref b)) Q E s :=
  eq_dataH_same (reads_newData ha hi.carried) (reads_newData hb hj.carried) (shaped_strs hok) (shaped_strs hok) hu (SeqAt.noMix_of_shape (.list .str) rfl _ _ (list_map_has fun _ => rfl) (list_map_has fun _ => rfl)) (by
    have e : PySem.Spec.same (.list (ts.map PyData.str)) (.list (ts.map PyData.str)) = true := by simp only [PySem.Spec.same]; exact same_strs ts
    rw [e]; exact h)
theorem drawn_len (ws : List Int) : ([6, 1, 3, 1, 0, 10, 1, 11, 4, 0, 5, 2, 1, 2, 12, 3, 4, 1] ++ List.map (fun k' : Int => k'.fmod 1000000) (List.take 16 ws)).length ≤ 40 := by
  rw [List.length_append, List.length_map, List.length_take]
  show 18 + min 16 ws.length ≤ 40
  omega
local macro_rules | `(tactic| walk_at "call ref") => `(tactic| (k_here; (with_reducible show wpAny _ _ (call (Value.ref 101) _) _ _ _); k_dflt (refine' header_use ?k1 ?k2 ?k3 ?k4 ?k5 ?k6 ?ki ?kn ?kl ?k7 ?k8 ?_; (case k1 => k_asm); (case k2 => k_asm); (case k3 => k_asm); (case k4 => k_asm); (case k5 => k_asm); (case k6 => first | exact rfl | assumption); (case ki => assumption); (case kn => exact drawn_len _); (case kl => ((simp only [AllLt, and_true]); assumption)); (case k7 => ktr_room); (case k8 => ktr_units); k_whole); intro D' r' t' rs' c' cc' h' tk' F' N' hS' hn'; (try dsimp only); (try k_fold)))
local macro_rules | `(tactic| walk_at "call ref") => `(tactic| (k_here; (with_reducible show wpAny _ _ (call (Value.ref 19) _) _ _ _); k_dflt (refine' parse_use ?k1 ?k2 ?k3 ?k4 ?k5 ?k6 ?kn ?k7 ?k8 ?_; (case k1 => k_asm); (case k2 => k_asm); (case k3 => k_asm); (case k4 => k_asm); (case k5 => k_asm); (case k6 => first | exact rfl | assumption); (case kn => assumption); (case k7 => ktr_room); (case k8 => ktr_units); k_whole); intro r' rs' c' h' tk' F' N' hS'; (try dsimp only); (try k_fold)))
local macro_rules | `(tactic| walk_at "call ref") => `(tactic| (k_here; (with_reducible show wpAny _ _ (call (Value.ref 106) _) _ _ _); k_dflt (refine' numbers_use ?k1 ?k2 ?k3 ?k4 ?k5 ?k6 ?kn ?k7 ?k8 ?_; (case k1 => k_asm); (case k2 => k_asm); (case k3 => k_asm); (case k4 => k_asm); (case k5 => k_asm); (case k6 => first | exact rfl | assumption); (case kn => assumption); (case k7 => ktr_room); (case k8 => ktr_units); k_whole); intro r' rs' c' h' tk' F' N' hS'; (try dsimp only); (try k_fold)))
local macro_rules | `(tactic| walk_at "compareOp Eq ref ref") => `(tactic| (k_here; k_dflt (refine' eq_strs ?k1 ?k2 ?k3 ?k4 ?k5 ?k6 ?_; (case k1 => exact News.isList (by k_asm) (by k_memK)); (case k2 => exact News.isList (by k_asm) (by k_memK)); (case k3 => assumption); (case k4 => assumption); (case k5 => exact due_ok _); (case k6 => ke_room); k_whole)))
theorem holds : PySem.Challenge.rw_pe0073_01.Holds := by
  k_with_none
  exact hd (by w_strict k_go)
end Mine
set_option maxRecDepth 100000 in
set_option maxHeartbeats 8000000 in
theorem PySem.Challenge.cw_pe0073_01_holds : PySem.Challenge.rw_pe0073_01.Holds :=
  Mine.holds
