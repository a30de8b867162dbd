import PyProof.Rows.All
import Wide.All
import OpenK.AllK
import Wide.FinOn
import KE.KIntText
import Lean
import PySem.Challenge.RW_bc6008_01
set_option Elab.async false

theorem Mine.fresh_Head1 : True := by w_top off; trivial
section
open PySem PySem.W PyProof.Rows
namespace Mine
set_option maxRecDepth 100000 in
set_option maxHeartbeats 8000000 in
open_top hd for PySem.Challenge.rw_bc6008_01
end Mine

end

theorem Mine.fresh_Base1 : True := by w_top off; trivial
section
open PySem PySem.W PySem.Spec PySem.Calls PyProof.Rows
namespace Mine
set_option maxRecDepth 100000

/-- what a call of the def at f does, whatever stands around it -/
def Con (w : World) (D U : Nat) (f : Addr) (vs : List Value) (news : List (Addr × Obj)) (Pre : Heap → Prop) (R : Value → List (Addr × Obj) → Prop) : Prop :=
  PySem.Challenge.rw_bc6008_01.foot = 13 → ∀ (p : Program) (loose : List Str) (mean : ExcName → Option Value) (mg mb : Str → Option Value)
  (dp un : Nat) (gd : Option (List Code)) (cn : Str) (cs : Scope) (a : Addr) (ccd : Value) (cl : List (Str × Addr)) (outer : List Env) (A₀ : Around) (base h₀ : Heap) (L : Addr) (m : Str → Option Value)
  (s : Shared) (Q E : Value → Shared → Prop),
  Below A₀ base outer h₀ → Fr h₀ L s.heap m → (hd.heap_39 w.params).In h₀ → News h₀ L s.heap news → Top p loose mean mg mb h₀ → cs.kind = .function → Pre base → dp + D < recursionLimit → un + U < cLine →
  (∀ v h' tk' news', R v news' → Fr h₀ L h' m → News h₀ L h' news' → Q v { s with heap := h', toks := tk' }) →
  wpAny (model PySem.Challenge.rw_bc6008_01.prog w) (ktrTop dp un gd cn cs L a ccd cl outer) (call (.ref f) vs) Q E s


theorem fdiv_nn {k n : Int} (h0 : 0 ≤ k) (hn : 0 < n) : 0 ≤ k.fdiv n := Int.fdiv_nonneg h0 (Int.le_of_lt hn)
theorem fdiv_le {k n : Int} (h0 : 0 ≤ k) (hn : 0 < n) : k.fdiv n ≤ k := by
  rw [Int.fdiv_eq_ediv_of_nonneg _ (Int.le_of_lt hn)]
  exact Int.ediv_le_self _ h0
theorem pow7_ne (n : Nat) : (7 : Int) ^ n ≠ 0 := Int.pow_ne_zero (by decide)
theorem pow7_log {n : Nat} (h : n ≤ 1000) : ((7 : Int) ^ n).natAbs.log2 < 9000 := by
  rw [Int.natAbs_pow]
  show (7 ^ n).log2 < 9000
  have h1 : 7 ^ n ≤ 8 ^ n := Nat.pow_le_pow_left (by decide) n
  have h2 : 8 ^ n = 2 ^ (3 * n) := by rw [Nat.pow_mul]
  have h3 : 2 ^ (3 * n) < 2 ^ 9000 := Nat.pow_lt_pow_right (by decide) (by omega)
  have h0 : 7 ^ n ≠ 0 := Nat.pos_iff_ne_zero.mp (Nat.pow_pos (by decide))
  rw [Nat.log2_lt h0]
  rw [h2] at h1
  exact Nat.lt_of_le_of_lt h1 h3
theorem pow7_fd {k n : Int} (h0 : 0 ≤ k) (h1 : k < 1000) (hn : 0 < n) : ((7 : Int) ^ (k.fdiv n).toNat).natAbs.log2 < 9000 := pow7_log (by have := fdiv_le h0 hn; have := fdiv_nn h0 hn; omega)
theorem fmod_range {x b : Int} (hb : 0 < b) : 0 ≤ x.fmod b ∧ x.fmod b < b := by
  rw [Int.fmod_eq_emod_of_nonneg _ (Int.le_of_lt hb)]
  exact ⟨Int.emod_nonneg _ (by omega), Int.emod_lt_of_pos _ hb⟩

/-- an item of a list at a place that is known -/
theorem item_at {prog : Program} {w : World} {A : Around} {E : Value → Shared → Prop} {s : Shared} {h₀ : Heap} {L : Addr} {news : List (Addr × Obj)} {value slice : PySem.Expr} {l : Addr} {xs : Array Value} {n : Nat} {k : Int} {u : Tok} {v : Value} {Q : Value → Shared → Prop}
    (N : News h₀ L s.heap news) (hm : (l, W.listOf xs n) ∈ news) (h0 : 0 ≤ k) (hhi : k < 2 ^ 63) (hx : xs[k.toNat]? = some v) (h : Q v s)
    (hs : subscripted slice false (.ref l) (.int k u) = operate [.ref l, .int k u] (getItem (.ref l) (.int k u)) := by with_unfolding_all rfl) :
    wpAny (model prog w) A (subscriptTail value slice (.ref l) (.int k u)) Q E s :=
  have hl : s.heap.IsList l xs := ⟨_, N.get hm, rfl, n, rfl⟩
  tail_any hl.typeIs slot_list_getitem.lookup (wpAny_getItem_list hl h0 hhi hx h) hs
theorem item_0 {prog : Program} {w : World} {A : Around} {E : Value → Shared → Prop} {s : Shared} {h₀ : Heap} {L : Addr} {news : List (Addr × Obj)} {value slice : PySem.Expr} {l : Addr} {n : Nat} {u : Tok} {v : Value} {Q : Value → Shared → Prop}
    (N : News h₀ L s.heap news) (hm : (l, W.listOf #[v] n) ∈ news) (h : Q v s)
    (hs : subscripted slice false (.ref l) (.int 0 u) = operate [.ref l, .int 0 u] (getItem (.ref l) (.int 0 u)) := by with_unfolding_all rfl) :
    wpAny (model prog w) A (subscriptTail value slice (.ref l) (.int 0 u)) Q E s := item_at N hm (by decide) (by decide) rfl h hs
theorem isL {h₀ h : Heap} {L : Addr} {news : List (Addr × Obj)} {l : Addr} {xs : Array Value} {n : Nat} (N : News h₀ L h news) (hm : (l, W.listOf xs n) ∈ news) : h.IsList l xs := ⟨_, N.get hm, rfl, n, rfl⟩
theorem len_L {prog : Program} {w : World} {A : Around} {E : Value → Shared → Prop} {s : Shared} {h₀ : Heap} {L : Addr} {news : List (Addr × Obj)} {l : Addr} {vs : List Value} {ns : List Int} {n : Nat} {Q : Value → Shared → Prop}
    (N : News h₀ L s.heap news) (hm : (l, W.listOf vs.toArray n) ∈ news) (hi : IntsAre vs ns) (hlen : ns.length ≤ 63) (h : ∀ t, Q (.int ns.length t) { s with toks := s.toks + 1 + 1 }) :
    wpAny (model prog w) A (call (.builtin "len") [.ref l]) Q E s := by
  have e : vs.toArray.size = ns.length := by rw [List.size_toArray]; exact hi.length
  refine len_list (isL N hm) (by rw [e]; omega) ?_
  rw [e]
  exact h _
theorem item_L {prog : Program} {w : World} {A : Around} {E : Value → Shared → Prop} {s : Shared} {h₀ : Heap} {L : Addr} {news : List (Addr × Obj)} {value slice : PySem.Expr} {l : Addr} {vs : List Value} {ns : List Int} {n : Nat} {k : Int} {u : Tok} {Q : Value → Shared → Prop}
    (N : News h₀ L s.heap news) (hm : (l, W.listOf vs.toArray n) ∈ news) (hi : IntsAre vs ns) (hlen0 : 0 < ns.length) (hlen : ns.length ≤ 63) (h : ∀ x t, Q (.int x t) s)
    (hs : subscripted slice false (.ref l) (.int (k.fmod ns.length) u) = operate [.ref l, .int (k.fmod ns.length) u] (getItem (.ref l) (.int (k.fmod ns.length) u)) := by with_unfolding_all rfl) (hg : ∀ r, letTemporaryGo value (.ref l) r = pure () := by intro _; with_unfolding_all rfl) :
    wpAny (model prog w) A (subscriptTail value slice (.ref l) (.int (k.fmod ns.length) u)) Q E s := by
  have hr := fmod_range (x := k) (b := ns.length) (by omega)
  exact item_list_ints (isL N hm) hi hr.1 hr.2 (by omega) (fun t => h _ t) hs hg
def Stop (P : Prop) : Prop := P
theorem Stop.at {P : Prop} (h : Stop P) : P := h
theorem Stop.go {P : Prop} (h : P) : Stop P := h
theorem Fr_eqv {h₀ h : Heap} {L : Addr} {m m' : Str → Option Value} (F : Fr h₀ L h m) (e : ∀ y, m y = m' y) : Fr h₀ L h m' := (funext e : m = m') ▸ F
/-- a frame's map, written -/
def fm : List (Str × Value) → Str → Option Value
  | [] => fun _ => none
  | (x, v) :: r => fun y => if y = x then some v else fm r y
theorem fm_lookup : ∀ (l : List (Str × Value)) (y : Str), l.lookup y = fm l y
  | [], _ => rfl
  | (x, v) :: r, y => by
    rw [List.lookup_cons]
    show _ = if y = x then some v else fm r y
    by_cases e : y = x
    · subst e; simp
    · rw [if_neg e, ← fm_lookup r y]
      have : (y == x) = false := by simpa using e
      simp [this]
def FmHas (m : Str → Option Value) : List (Str × Value) → Prop
  | [] => True
  | p :: r => m p.1 = some p.2 ∧ FmHas m r
def FmOff (y : Str) : List (Str × Value) → Prop
  | [] => True
  | p :: r => y ≠ p.1 ∧ FmOff y r
theorem fm_eq {m : Str → Option Value} : ∀ {l : List (Str × Value)} {y : Str}, FmHas m l → (FmOff y l → m y = none) → m y = fm l y
  | [], _, _, h2 => h2 trivial
  | p :: r, y, h1, h2 => by
    show m y = if y = p.1 then some p.2 else fm r y
    by_cases e : y = p.1
    · rw [if_pos e, e]; exact h1.1
    · rw [if_neg e]; exact fm_eq h1.2 fun h => h2 ⟨e, h⟩
theorem Fr_fm {h₀ h : Heap} {L : Addr} {m : Str → Option Value} (F : Fr h₀ L h m) (l : List (Str × Value)) (h1 : FmHas m l) (h2 : ∀ y, FmOff y l → m y = none) : Fr h₀ L h (fm l) :=
  Fr_eqv F fun y => fm_eq h1 (h2 y)

section
variable {prog : Program} {w : World} {A A₀ : Around} {E : Value → Shared → Prop} {s : Shared} {K : Frag} {L : Addr} {h₀ base : Heap} {m mg mb : Str → Option Value} {news : List (Addr × Obj)} {p : Program} {loose : List Str} {mean : ExcName → Option Value}
theorem code_def' {env : Env} {outer : List Env} {R : Result → Shared → Prop} {name qual : Str} {params : Arguments} {body : List Stmt} {scope : Scope} {dV kV doc pm cdv ct oc : Value} {an od : Option Addr} {osl : Array (Option Value)} {f : Addr} {args : Args} (binds : List (Str × Value))
    (B : Below A₀ base outer h₀) (F : Fr h₀ L s.heap m) (X₀ : K.In h₀) (N : News h₀ L s.heap news) (T : Top p loose mean mg mb h₀) (hA : A.frames = some (env :: outer)) (hf : env.frame = some L) (hke : env.scope.kind = .function)
    (ho : K.lookup f = some ⟨oc, od, .func (fnOf name qual params body scope dV kV doc pm an cdv ct), osl⟩) (hcd : codeIn K cdv qual = true) (hroom : A.depth < recursionLimit)
    (hbind : BindsTo s (fnOf name qual params body scope dV kV doc pm an cdv ct) args binds) (hloc : ∀ y ∈ binds, scope.names.lookup y.1 = some .local)
    (h : ∀ g L' h₁ tk, Fr h₀ L g m → Fr g L' h₁ (fm binds.reverse) → News g L' h₁ news → Below A base (env :: outer) g → K.In g → Top p loose mean mg mb g →
      wpAny (model prog w) (A.deeper (envOf qual scope L' f cdv)) (execs body (envOf qual scope L' f cdv))
        (fun fl s' => LeaveK h₀ L m g R (match fl with | .ret v => v | _ => .none) s')
        (fun e s' => wpAny (model prog w) (A.deeper (envOf qual scope L' f cdv)) (leaving (envOf qual scope L' f cdv) e) (fun _ s'' => R (.error e) s'') (fun e' s'' => R (.error e') s'') s')
        { s with heap := h₁, toks := tk })
    (hco : scope.isCoroutine = false) (hgen : scope.isGenerator = false) (hk : scope.kind = .function)
    (hcell : ∀ x ∈ scope.names, x.2 ≠ .cell) : codeAny (model prog w) A (.call (.ref f) args) R s :=
  PySem.W.code_def B F X₀ N T hA hf hke ho hcd hroom hbind hloc (fun g L' h₁ FG F' N' B' X' T' => h g L' h₁ _ FG (Fr_eqv F' fun y => fm_lookup _ y) N' B' X' T') hco hgen hk hcell
end
end Mine

end

theorem Mine.fresh_Base2 : True := by w_top off; trivial
section
open PySem PySem.W PySem.Spec PySem.Calls PyProof.Rows
namespace Mine
set_option maxRecDepth 100000

abbrev S (l : List Nat) : Str := ⟨l.toArray⟩
theorem S_inj {a b : List Nat} : S a = S b ↔ a = b := by
  constructor
  · intro h
    have := congrArg (fun x : Str => x.cps.toList) h
    simpa using this
  · rintro rfl; rfl
theorem S_len (a : List Nat) : (S a).length = a.length := by simp [PySem.Str.length]
theorem S_app (a b : List Nat) : S a ++ S b = S (a ++ b) := by
  show PySem.Str.append _ _ = _
  simp [PySem.Str.append]
theorem S_of (x : Str) : x = S x.cps.toList := by cases x; simp

theorem lit_empty : Str.ofString "" = S [] := by decide +kernel
theorem lit_bs : Str.ofString "\\" = S [92] := by decide +kernel
theorem lit_0 : Str.ofString "0" = S [48] := by decide +kernel
theorem lit_000000 : Str.ofString "000000" = S [48,48,48,48,48,48] := by decide +kernel
theorem lit_a : Str.ofString "a" = S [97] := by decide +kernel
theorem lit_f : Str.ofString "f" = S [102] := by decide +kernel
theorem lit_repl : Str.ofString "�" = S [65533] := by decide +kernel
theorem lit_sp : Str.ofString " " = S [32] := by decide +kernel
theorem lit_nl : Str.ofString "\n" = S [10] := by decide +kernel
theorem lit_fig : Str.ofString "0123456789abcdef" = S [48,49,50,51,52,53,54,55,56,57,97,98,99,100,101,102] := by decide +kernel
theorem lit_AF : Str.ofString "ABCDEF" = S [65,66,67,68,69,70] := by decide +kernel

section
variable {prog : Program} {w : World} {A : Around} {E : Value → Shared → Prop} {s : Shared} {x y : Str} {t u : Tok} {a b : List Nat} {value slice : PySem.Expr}
theorem s_add {Q : Value → Shared → Prop} (hx : x = S a) (hy : y = S b) (hsz : a.length + b.length ≤ 16777216) (h : ∀ t' tk, Q (.str (S (a ++ b)) t') { s with toks := tk }) :
    wpAny (model prog w) A (binaryOp .Add (.str x t) (.str y u)) Q E s := by
  subst hx hy
  exact add_str (fun t' tk => by rw [S_app]; exact h t' tk) (by rw [S_len, S_len, sizeLine_eq]; exact hsz)
theorem s_len {Q : Value → Shared → Prop} (hx : x = S a) (hsz : a.length ≤ 16777216) (h : ∀ t' tk, Q (.int a.length t') { s with toks := tk }) :
    wpAny (model prog w) A (call (.builtin "len") [.str x t]) Q E s := by
  subst hx
  exact P.len_str (by rw [S_len]; omega) (by rw [S_len]; exact h _ _)
theorem s_truthy {Q : Bool → Shared → Prop} (hx : x = S a) (hsz : a.length ≤ 16777216) (h : ∀ tk, Q (!a.isEmpty) { s with toks := tk }) :
    wpAny (model prog w) A (truthy (.str x t)) Q E s := by
  subst hx
  refine P.truthy_str (by rw [S_len]; omega) ?_
  have e : (((S a).length : Int) != 0) = !a.isEmpty := by
    rw [S_len]
    cases a with
    | nil => rfl
    | cons c r => simp; omega
  rw [e]
  exact h _
theorem s_eq {Q : Value → Shared → Prop} (hx : x = S a) (hy : y = S b) (h : Q (.bool (a == b)) s) : wpAny (model prog w) A (compareOp .Eq (.str x t) (.str y u)) Q E s := by
  subst hx hy
  exact P.eq_str (by simpa using h)
theorem s_ne {Q : Value → Shared → Prop} (hx : x = S a) (hy : y = S b) (h : Q (.bool (a != b)) s) : wpAny (model prog w) A (compareOp .NotEq (.str x t) (.str y u)) Q E s := by
  subst hx hy
  exact P.ne_str (by simpa using h)
theorem charAt_S {i : Int} (h0 : 0 ≤ i) (h1 : i < a.length) : Txt.item (S a) i = S [a.getD i.toNat 0] := by
  unfold Txt.item Txt.charAt PySem.seqIndex?
  have hn : ¬ i < 0 := by omega
  have hlt : i.toNat < a.length := by omega
  simp [hn, PySem.Str.length, h1, h0, hlt]
theorem s_item {i : Int} {Q : Value → Shared → Prop} (hx : x = S a) (h0 : 0 ≤ i) (h1 : i < a.length) (hsz : a.length ≤ 16777216) (h : Q (.str (S [a.getD i.toNat 0]) s.toks) { s with toks := s.toks + 1 })
    (hs : subscripted slice false (.str x t) (.int i u) = operate [.str x t, .int i u] (getItem (.str x t) (.int i u)) := by with_unfolding_all rfl)
    (ht : ∀ r, letTemporaryGo value (.str x t) r = pure () := by intro _; with_unfolding_all rfl) :
    wpAny (model prog w) A (subscriptTail value slice (.str x t) (.int i u)) Q E s := by
  subst hx
  refine item_str (fitsSsize_of (N := 9223372036854775808) (by omega) (by omega) (Int.le_refl _)) (by rw [S_len]; omega) (by rw [S_len]; exact h1) (fun _ => ?_) hs ht
  rw [charAt_S h0 h1]
  exact h
end
end Mine

end

theorem Mine.fresh_D1 : True := by w_top off; trivial
section
open PySem PySem.W PySem.Spec PySem.Calls PyProof.Rows
namespace Mine
set_option maxRecDepth 100000

section
local macro_rules | `(tactic| k_all) => `(tactic| with_reducible assumption)
local macro_rules | `(tactic| k_mem) => `(tactic| with_reducible assumption)
local macro_rules | `(tactic| walk_at "subscriptTail Name Constant ref int") => `(tactic| (with_unfolding_all refine item_0 (by assumption) (List.Mem.head _) ?_))
local macro_rules | `(tactic| walk_at "call builtin:len") => `(tactic| (with_unfolding_all refine len_L (by assumption) (List.Mem.tail _ (by assumption)) (by assumption) (by assumption) ?_; intro _))
local macro_rules | `(tactic| walk_at "subscriptTail Name BinOp ref int") => `(tactic| (with_unfolding_all refine item_L (by assumption) (List.Mem.tail _ (by assumption)) (by assumption) (by assumption) (by assumption) ?_; intro _ _))
local macro_rules | `(tactic| walk_at "binaryOp Pow int int") => `(tactic| (refine pow_int_small (fdiv_nn (by assumption) (by omega)) (Int.le_trans (fdiv_le (by assumption) (by omega)) (by omega)) (by decide) ?_))
local macro_rules | `(tactic| walk_at "binaryOp FloorDiv int int") => `(tactic| (refine floordiv_int (pow7_ne _) ?_ (Or.inl (PyProof.noPylong_of_log2 (pow7_fd (by assumption) (by assumption) (by omega))))))
set_option maxHeartbeats 4000000 in
theorem drawn0 {w : World} {l at_ : Addr} {vs : List Value} {ns : List Int} {k : Int} {tk tb : Tok} {e en : Nat} {b : Int} {rest : List (Addr × Obj)}
    (hne : ∀ p ∈ rest, p.1 ≠ at_) (hi : IntsAre vs ns) (hlen : 0 < ns.length) (hlen2 : ns.length ≤ 63) (hk0 : 0 ≤ k) (hk1 : k < 1000) (hb : 0 < b) (hb1 : b < 100) :
    Con w 1 8 86 [.ref l, .ref at_, .int b tb] ((at_, W.listOf #[.int k tk] e) :: rest) (fun base => base.IsList l vs.toArray ∨ (l, W.listOf vs.toArray en) ∈ rest)
      (fun v news' => ∃ r t t2, v = .int r t ∧ 0 ≤ r ∧ r < b ∧ news' = (at_, W.listOf #[.int (k+1) t2] e) :: rest) := by
  unfold Con
  k_fill
  intro _ p loose mean mg mb dp un gd cn cs a ccd cl outer A₀ base h₀ L m s Q E B F X N T hk hl hd hu ret
  refine wpAny_call ?_
  rcases hl with hl | hl
  all_goals k_dflt cell_enter
  · k_steps
    all_goals exact ret _ _ _ _ ⟨_, _, _, rfl, (fmod_range hb).1, (fmod_range hb).2, rfl⟩ (by assumption) (by assumption)
  · k_steps
    all_goals exact ret _ _ _ _ ⟨_, _, _, rfl, (fmod_range hb).1, (fmod_range hb).2, rfl⟩ (by assumption) (by assumption)
end
end Mine

end

theorem Mine.fresh_D2 : True := by w_top off; trivial
section
open PySem PySem.W PySem.Spec PySem.Calls PyProof.Rows
namespace Mine
set_option maxRecDepth 100000

def dig (c : Nat) : Int := if c < 58 then (c : Int) - 48 else (c : Int) - 87
def hexV : List Nat → Int
  | [] => 0
  | c :: r => dig c * 16 ^ r.length + hexV r
def hexC (c : Nat) : Prop := (48 ≤ c ∧ c ≤ 57) ∨ (97 ≤ c ∧ c ≤ 102)
def figs : List Nat := [48,49,50,51,52,53,54,55,56,57,97,98,99,100,101,102]
theorem figs_dig : ∀ d, d < 16 → hexC (figs.getD d 0) ∧ dig (figs.getD d 0) = d := by
  intro d hd
  unfold hexC dig
  have : d = 0 ∨ d = 1 ∨ d = 2 ∨ d = 3 ∨ d = 4 ∨ d = 5 ∨ d = 6 ∨ d = 7 ∨ d = 8 ∨ d = 9 ∨ d = 10 ∨ d = 11 ∨ d = 12 ∨ d = 13 ∨ d = 14 ∨ d = 15 := by omega
  rcases this with rfl | rfl | rfl | rfl | rfl | rfl | rfl | rfl | rfl | rfl | rfl | rfl | rfl | rfl | rfl | rfl <;> decide
/-- the figures of a number below 16^6 -/
def HexOf (ds : List Nat) (n : Int) : Prop := ds ≠ [] ∧ ds.length ≤ 6 ∧ (∀ c ∈ ds, hexC c) ∧ hexV ds = n
def hexInv (n i : Int) (xs : List Nat) : Prop := (∀ c ∈ xs, hexC c) ∧ hexV xs + i * 16 ^ xs.length = n ∧ xs.length ≤ 6 ∧ (xs = [] → i = n)
theorem hexV_nonneg : ∀ {xs : List Nat}, (∀ c ∈ xs, hexC c) → 0 ≤ hexV xs
  | [], _ => Int.le_refl _
  | c :: r, h => by
    have h1 := hexV_nonneg (xs := r) fun d hd => h d (.tail _ hd)
    have h2 : 0 ≤ dig c := by
      have := h c (.head _)
      unfold hexC at this; unfold dig
      split <;> omega
    have h3 : (0 : Int) ≤ dig c * 16 ^ r.length := Int.mul_nonneg h2 (Int.le_of_lt (Int.pow_pos (by decide)))
    show 0 ≤ dig c * 16 ^ r.length + hexV r
    omega
theorem hexInv_start {n : Int} : hexInv n n [] := ⟨(fun _ h => nomatch h), by simp [hexV], by simp, fun _ => rfl⟩
theorem hexInv_len {n i : Int} {xs : List Nat} (h : hexInv n i xs) (hn : n < 16777216) (hi : 0 < i) : xs.length < 6 := by
  obtain ⟨h1, h2, h3, _⟩ := h
  have h4 := hexV_nonneg h1
  by_cases e : xs.length = 6
  · rw [e] at h2
    have : (16 : Int) ^ 6 = 16777216 := by decide
    rw [this] at h2
    omega
  · omega
theorem hexInv_turn {n i : Int} {xs : List Nat} (h : hexInv n i xs) (hn : n < 16777216) (hi : 0 < i) : hexInv n (i.fdiv 16) ([figs.getD (i.fmod 16).toNat 0] ++ xs) := by
  have hl := hexInv_len h hn hi
  obtain ⟨h1, h2, h3, _⟩ := h
  have hm := fmod_range (x := i) (b := 16) (by decide)
  obtain ⟨hc, hd⟩ := figs_dig (i.fmod 16).toNat (by omega)
  refine ⟨?_, ?_, by simp; omega, fun e => absurd e (by simp)⟩
  · intro c hm'
    rcases List.mem_cons.mp hm' with rfl | hm'
    · exact hc
    · exact h1 c hm'
  · show dig _ * 16 ^ xs.length + hexV xs + i.fdiv 16 * 16 ^ (xs.length + 1) = n
    rw [hd, Int.toNat_of_nonneg hm.1, Int.pow_succ, ← h2]
    have e : i = 16 * i.fdiv 16 + i.fmod 16 := (Int.mul_fdiv_add_fmod i 16).symm
    generalize i.fdiv 16 = q at *
    generalize i.fmod 16 = r at *
    subst e
    generalize (16 : Int) ^ xs.length = z
    have e1 : q * (z * 16) = 16 * q * z := by rw [Int.mul_comm z 16, ← Int.mul_assoc, Int.mul_comm q 16]
    rw [e1, Int.add_mul]
    omega
theorem hexInv_end {n i : Int} {xs : List Nat} (h : hexInv n i xs) (h0 : 0 ≤ i) (hi : ¬ 0 < i) (hne : xs.isEmpty = false) : HexOf xs n := by
  obtain ⟨h1, h2, h3, _⟩ := h
  have : i = 0 := by omega
  subst this
  refine ⟨fun e => by simp [e] at hne, h3, h1, by simpa using h2⟩
theorem hexInv_end0 {n i : Int} {xs : List Nat} (h : hexInv n i xs) (h0 : 0 ≤ i) (hi : ¬ 0 < i) (hne : xs.isEmpty = true) : HexOf [48] n := by
  have e : xs = [] := by simpa using hne
  have := h.2.2.2 e
  have : n = 0 := by omega
  subst this
  refine ⟨by simp, by simp, ?_, by decide⟩
  intro c hc
  rcases List.mem_cons.mp hc with rfl | hc
  · exact .inl (by decide)
  · exact nomatch hc

section
local macro_rules | `(tactic| walk_at "exec While Compare cons nil") => `(tactic| (refine Stop.at ?_))
local macro_rules | `(tactic| walk_at "subscriptTail Name BinOp str int") => `(tactic| (refine s_item lit_fig (fmod_range (by decide)).1 (fmod_range (by decide)).2 (by decide) ?_))
local macro_rules | `(tactic| walk_at "binaryOp Add str str") => `(tactic| (refine s_add rfl rfl (by simp; omega) ?_; intro _ _))
local macro_rules | `(tactic| walk_at "truthy str") => `(tactic| (refine s_truthy rfl (by omega) ?_; intro _))
set_option maxHeartbeats 4000000 in
theorem hex0 {w : World} {n : Int} {tn : Tok} {news : List (Addr × Obj)} (h0 : 0 ≤ n) (h1 : n < 16777216) :
    Con w 1 8 93 [.int n tn] news (fun _ => True)
      (fun v news' => ∃ ds t, v = .str (S ds) t ∧ HexOf ds n ∧ news' = news) := by
  unfold Con
  k_fill
  intro _ p loose mean mg mb dp un gd cn cs a ccd cl outer A₀ base h₀ L m s Q E B F X N T hk hl hd hu ret
  refine wpAny_call ?_
  k_dflt (refine' code_def' [(Str.ofString "n", .int n tn)] ?k1 ?k2 ?k3 ?k4 ?k5 ?kA ?kF ?kK ?k6 ?k7 ?k8 ?k9 ?kB ?_ ?c2 ?c3 ?c4 ?c5; (case kA => exact rfl); (case kF => exact rfl); (case kK => assumption); (case k1 => k_asm); (case k2 => k_asm); (case k3 => k_asm); (case k4 => k_asm); (case k5 => k_asm); (case k6 => k_is); (case k7 => k_is); (case k8 => ktr_room); (case k9 => exact BindsTo.of_eq rfl); (case c5 => decide); (case kB => exact locs rfl); (case c2 => exact rfl); (case c3 => exact rfl); (case c4 => exact rfl); k_whole; intro g' L' h' tk' FG' F' N' B' X' T'; (try dsimp only [List.reverse_cons, List.reverse_nil, List.nil_append, List.cons_append] at F'); (try dsimp only); (try k_lift B'); (try k_fold))
  k_steps
  refine Stop.go ?_
  rename Fr _ _ _ _ => F1
  rename News _ _ _ _ => N1
  have F2 := Fr_fm F1 [("out", .str (S []) _), ("n", .int n tn)] ⟨congrArg (fun x => some (Value.str x _)) lit_empty, rfl, trivial⟩ (by
    intro y hy
    obtain ⟨e1, e2, _⟩ := hy
    simp [fm, e1, e2])
  refine While_inv (fun j m' news' => ∃ (i : Int) (x : List Nat) (ti tx : Tok), m' = fm [("out", .str (S x) tx), ("n", .int i ti)] ∧ news' = news ∧ 0 ≤ i ∧ j = i.toNat ∧ x.length ≤ 6 ∧ hexInv n i x) (n₀ := n.toNat) F2 N1 ⟨n, [], _, _, rfl, rfl, h0, rfl, by simp, hexInv_start⟩ ?_
  rintro j m₁ news₁ h₁ tk₁ F2 N2 ⟨i, x, ti, tx, rfl, rfl, hi0, rfl, hlx, hinv⟩
  k_steps
  · rename Fr _ _ _ _ => F3
    have F4 := Fr_fm F3 [("out", .str (S _) _), ("n", .int _ _)] ⟨rfl, rfl, trivial⟩ (by
      intro y hy
      obtain ⟨e1, e2, _⟩ := hy
      simp [fm, e1, e2])
    have hi1 : 0 < i := by assumption
    have hfd : i.fdiv 16 < i := by rw [Int.fdiv_eq_ediv_of_nonneg _ (by decide)]; omega
    have hfn := fdiv_nn (k := i) (n := 16) hi0 (by decide)
    have hi2 := hexInv_turn hinv h1 hi1
    exact WhileStep.intro F4 (by assumption) (by omega) ⟨_, _, _, _, rfl, rfl, hfn, rfl, hi2.2.2.1, hi2⟩
  · refine ret _ _ _ _ ⟨_, _, congrArg (fun x => Value.str x _) lit_0, hexInv_end0 hinv hi0 (by assumption) (by assumption), rfl⟩ (by assumption) (by assumption)
  · exact ret _ _ _ _ ⟨_, _, rfl, hexInv_end hinv hi0 (by assumption) (by assumption), rfl⟩ (by assumption) (by assumption)
end
end Mine

end

theorem Mine.fresh_Base3 : True := by w_top off; trivial
section
open PySem PySem.W PySem.Spec PySem.Calls PyProof.Rows
namespace Mine
set_option maxRecDepth 100000

section
variable {prog : Program} {w : World} {A : Around} {E : Value → Shared → Prop} {s : Shared} {h₀ : Heap} {L : Addr} {m : Str → Option Value} {env : Env}
/-- what a comprehension's source, a text, must bring -/
def SrcS (prog : Program) (w : World) (A : Around) (h₀ : Heap) (L : Addr) (m : Str → Option Value) (env : Env) (elt : PySem.Expr) (x : Str) (scope : Scope) (cl : List (Str × Addr)) (Q : Value → Shared → Prop) (v : Value) (s₁ : Shared) : Prop :=
  ∃ (t : Str) (u : Tok) (news : List (Addr × Obj)), v = .str t u ∧ A.handled = none ∧ Fr h₀ L s₁.heap m ∧ News h₀ L s₁.heap news ∧ t.cps.size ≤ sizeLine ∧
    ∀ g, LCg.CompRest prog w A h₀ L m env elt x scope cl { s₁ with heap := g } (fun _ => True) (SignAt t) (LCg.FinE h₀ L m { s₁ with heap := g } Q) t.cps.size 0 [] news
/-- what the comprehension's frame leaves when it goes: all but that frame stands -/
theorem gone {C : Addr} {h h' : Heap} {nx : List (Addr × Obj)} (F : Fr h₀ L h m) (N : News h₀ L h nx) (hC : h₀.get? C = none) (hL : C ≠ L) (hne : ∀ p ∈ nx, p.1 ≠ C) (hs : Heap.SameBut C h h') : Fr h₀ L h' m ∧ News h₀ L h' nx :=
  And.intro (F.change hs hL hC) fun p hp => And.intro (hs.extBut p.1 p.2 (hne p hp) (N p hp).1) (N p hp).2
/-- a text's signs, one by one, by either of its two iterators -/
theorem signs_run {elt iter : PySem.Expr} {x : Str} {px : Pos} {scope : Scope} {cl : List (Str × Addr)} {pos : Pos} {Q : Value → Shared → Prop} {RR : Value → Addr → Result → Shared → Prop} {t : Str} {u : Tok} {ty : String} {o : Obj} {news : List (Addr × Obj)}
    (hW : Walks prog w A s.heap.objs.size [s.heap.objs.size] [s.heap.objs.size] t.cps.size (SignAt t) (fun i h => h.IsStrIter s.heap.objs.size ty t u i)) (ho : (s.heap.push o).IsStrIter s.heap.objs.size ty t u 0) (hsz : t.cps.size ≤ sizeLine)
    (hcell : ∀ y ∈ scope.names, y.2 ≠ .cell) (hkind : scope.kind = .function) (hx : scope.names.lookup x = some .local) (F : Fr h₀ L s.heap m) (N : News h₀ L s.heap news)
    (R : LCg.CompRest prog w A h₀ L m env elt x scope cl { s with heap := s.heap.push o } (fun _ => True) (SignAt t) (LCg.FinE h₀ L m { s with heap := s.heap.push o } Q) t.cps.size 0 [] news)
    (out : ∀ D C h tk m', h.Ns C m' → (∀ h', Heap.SameBut C h h' → Q (.ref D) { s with heap := h', toks := tk }) → RR (.ref D) C (.ok .next) { s with heap := h, toks := tk }) :
    wpAny (model prog w) A (newList []) (fun acc s₃ => wpAny (model prog w) A (newFunctionEnv scope env.globals cl [] env.qual none .none (some env)) (fun cenv s₄ =>
      codeAny (model prog w) A (.compStart (.ListComp elt [⟨.Name x px, iter, [], 0⟩] scope pos) 0 (.ref s.heap.objs.size) acc { cenv with scope := relabel scope env }) (RR acc cenv.locals) s₄) E s₃) E { s with heap := s.heap.push o } := by
  have up : ∀ b q, s.heap.get? b = some q → (s.heap.push o).get? b = some q := fun _ _ e => Heap.get?_push_of_some _ e
  have lt : ∀ p ∈ news, p.1 ≠ s.heap.objs.size := fun p hp => Nat.ne_of_lt (Heap.lt_size (N p hp).1)
  refine LCg.block_U (news := news) hW hsz ?_ ?_ hcell hkind hx ho ?_ (F.keeps up) (N.grown up) (Nat.ne_of_lt F.ns.lt) (next_is_new F) lt trivial R ?_
  · exact fun i h st => st.imp fun _ e => e.1
  · rintro i h h' q nw ⟨q', e1, e2⟩ e3 e4 - - -
    exact ⟨q, e4, Option.some.inj (e1.symm.trans e3) ▸ e2⟩
  · simp only [List.mem_singleton, forall_eq, Heap.size_push]
    exact Nat.lt_succ_self _
  · intro D C h tk m' ys nx F' N' one hn c0 _ cL _ cD away fin
    refine out D C h tk m' hn fun h' hs => ?_
    have e := gone F' N' c0 cL (List.forall_mem_cons.mpr ⟨Ne.symm cD, away⟩) hs
    exact fin D h' tk e.1 e.2 one
theorem LC_str {elt iter : PySem.Expr} {x : Str} {px : Pos} {scope : Scope} {cl : List (Str × Addr)} {pos : Pos} {Q : Value → Shared → Prop}
    (hclos : closureFor scope env = pure cl) (hcell : ∀ y ∈ scope.names, y.2 ≠ .cell) (hkind : scope.kind = .function)
    (hnames : ∀ y ∈ scope.names, y.2 = .local → scope.names.lookup y.1 = some .local) (hx : scope.names.lookup x = some .local)
    (h : wpAny (model prog w) A (eval iter env) (SrcS prog w A h₀ L m env elt x scope cl Q) E s)
    (hs : ∀ x, foldedSetIterable iter env x = pure x := by intro _; rfl) :
    wpAny (model prog w) A (eval (.ListComp elt [⟨.Name x px, iter, [], 0⟩] scope pos) env) Q E s := by
  rw [eval_ListComp]
  refine wpAny_comprehension_free (use := none) rfl hs hclos hkind hnames (wpAny_mono h ?_ fun _ _ e => e)
  rintro _ s₁ ⟨t, u, news, rfl, hh, F, N, hsz, R⟩
  by_cases ha : t.cps.all (· < 128) = true
  · exact wpAny_pyIter_ascii ha (signs_run (Walks.strAscii hh s₁.heap.objs.size t u) ⟨_, Heap.get?_push_size _ rfl, rfl, rfl⟩ hsz hcell hkind hx F N (R _) fun D C h tk m' hn q => ⟨m', hn, q⟩)
  · exact wpAny_pyIter_wide (eq_false_of_ne_true ha) (signs_run (Walks.strWide hh s₁.heap.objs.size t u) ⟨_, Heap.get?_push_size _ rfl, rfl, rfl⟩ hsz hcell hkind hx F N (R _) fun D C h tk m' hn q => ⟨m', hn, q⟩)
/-- the turns of a comprehension by what holds ahead of each -/
theorem comp_ind {elt : PySem.Expr} {x : Str} {scope : Scope} {cl : List (Str × Addr)} {P : Nat → Value → Prop} {Fin : List Value → List (Addr × Obj) → Prop} {n : Nat} {news : List (Addr × Obj)}
    (J : Nat → List Value → List (Addr × Obj) → Prop) (hJ : J 0 [] news)
    (turn : ∀ i ys nx, i < n → J i ys nx → ∀ v I oI C oC D m₂ h tk (E' : Value → Shared → Prop), P i v → LCg.NsObj oC m₂ → m₂ x = some v → Fr h₀ L h m → News h₀ L h ((I, oI) :: (C, oC) :: (D, LCg.lst ys) :: nx) → LCg.Off3 I C D nx → ((@Ne Nat I C) ∧ (@Ne Nat I D) ∧ (@Ne Nat C D)) →
      wpAny (model prog w) A (eval elt (compEnvC scope cl C env)) (LCg.CompEnd h₀ L m { s with heap := h, toks := tk } I oI C oC D (LCg.lst ys) (fun _ => True) (fun y news' => J (i + 1) (ys ++ [y]) news')) E' { s with heap := h, toks := tk })
    (fin : ∀ ys nx, J n ys nx → Fin ys nx) :
    LCg.CompRest prog w A h₀ L m env elt x scope cl s (fun _ => True) P Fin n 0 [] news := by
  suffices go : ∀ (k : Nat) {i : Nat} {ys : List Value} {nx : List (Addr × Obj)}, i + k = n → J i ys nx → LCg.CompRest prog w A h₀ L m env elt x scope cl s (fun _ => True) P Fin k i ys nx from go n (Nat.zero_add n) hJ
  intro k
  induction k with
  | zero => exact fun hi hj => fin _ _ ((show _ = n from hi) ▸ hj)
  | succ k ih =>
    intro i ys nx hi hj v I oI C oC D m₂ h tk E' hP hC hx F N off hne
    refine wpAny_mono (turn i ys nx (by omega) hj v I oI C oC D m₂ h tk E' hP hC hx F N off hne) ?_ fun _ _ e => e
    rintro y s₂ ⟨h', tk', nx', e, F', N', off', tr, hj'⟩
    exact ⟨h', tk', nx', e, F', N', off', tr, ih (by omega) hj'⟩
end
section
variable {prog : Program} {w : World} {A : Around} {h₀ : Heap} {L : Addr} {m : Str → Option Value} {env : Env} {elt : PySem.Expr} {x : Str} {scope : Scope} {cl : List (Str × Addr)} {s : Shared} {Fin : List Value → List (Addr × Obj) → Prop} {news : List (Addr × Obj)}
theorem ct_rest {xs : List Nat} (g : Nat → List Nat)
    (turn : ∀ c t I oI C oC D m₂ ys h tk (E' : Value → Shared → Prop), c ∈ xs → LCg.NsObj oC m₂ → m₂ x = some (.str (S [c]) t) → Fr h₀ L h m → News h₀ L h ((I, oI) :: (C, oC) :: (D, LCg.lst ys) :: news) → LCg.Off3 I C D news → ((@Ne Nat I C) ∧ (@Ne Nat I D) ∧ (@Ne Nat C D)) →
      wpAny (model prog w) A (eval elt (compEnvC scope cl C env)) (LCg.CompEnd h₀ L m { s with heap := h, toks := tk } I oI C oC D (LCg.lst ys) (fun _ => True) (fun y news' => news' = news ∧ ∃ t, y = .str (S (g c)) t)) E' { s with heap := h, toks := tk })
    (fin : ∀ ys, StrsAre ys (xs.map fun c => S (g c)) → Fin ys news) : LCg.CompRest prog w A h₀ L m env elt x scope cl s (fun _ => True) (SignAt (S xs)) Fin xs.length 0 [] news := by
  refine comp_ind (fun i ys nx => nx = news ∧ StrsAre ys ((xs.take i).map fun c => S (g c))) ⟨rfl, by rw [List.take_zero]; exact .nil⟩ ?_ ?_
  · rintro i ys _ hi ⟨rfl, hy⟩ v I oI C oC D m₂ h tk E' ⟨c, u, hc, rfl⟩ hC hx F N off ne
    have hc' : xs[i]? = some c := by simpa using hc
    refine wpAny_mono (turn c u I oI C oC D m₂ ys h tk E' (List.mem_of_getElem? hc') hC hx F N off ne) ?_ fun _ _ e => e
    rintro y s₂ ⟨h', tk', _, e, F', N', off', tr, rfl, t', rfl⟩
    refine ⟨h', tk', _, e, F', N', off', tr, rfl, ?_⟩
    rw [List.take_add_one, hc', List.map_append]
    exact kct_snoc hy
  · rintro ys _ ⟨rfl, hy⟩
    exact fin ys (by rwa [List.take_length] at hy)
end
theorem join_go : ∀ (ts : List (List Nat)) (a : List Nat), (ts.map S).foldl (fun acc (p : Str) => acc ++ (S []).cps ++ p.cps) a.toArray = (a ++ ts.flatten).toArray
  | [], a => by simp
  | t :: r, a => by
    rw [List.map_cons, List.foldl_cons]
    have e : a.toArray ++ (S []).cps ++ (S t).cps = (a ++ t).toArray := by simp
    rw [e, join_go r (a ++ t)]
    simp
theorem join_S (ts : List (List Nat)) : Txt.join (S []) (ts.map S) = S ts.flatten := by
  show PySem.Builtin.Str.glued _ _ = _
  unfold PySem.Builtin.Str.glued
  cases ts with
  | nil => rfl
  | cons t r =>
    simp only [List.map_cons, List.drop_succ_cons, List.drop_zero, List.headD_cons]
    rw [join_go r t]
    simp
section
variable {prog : Program} {w : World} {A : Around} {E : Value → Shared → Prop} {s : Shared} {h₀ : Heap} {L : Addr} {news : List (Addr × Obj)} {x : Str} {t : Tok} {Q : Value → Shared → Prop}
theorem s_join {D : Addr} {ys : List Value} {n : Nat} {ts : List (List Nat)} (N : News h₀ L s.heap news) (hm : (D, W.listOf ys.toArray n) ∈ news) (hi : StrsAre ys (ts.map S)) (hx : x = S []) (hok : ts.flatten.length ≤ 16777216)
    (h : ∀ t' k, Q (.str (S ts.flatten) t') { s with toks := k }) : wpAny (model prog w) A (call (.builtin "str.join") [.str x t, .ref D]) Q E s := by
  subst hx
  refine join_list (isL N hm) hi ?_ fun t' k => ?_
  · rw [S_len]
    simp only [List.length_nil, Nat.mul_zero, Nat.add_zero, List.map_map]
    have e : ((PySem.Str.length) ∘ S) = List.length := by funext l; exact S_len l
    rw [e, ← List.length_flatten]
    exact hok
  · rw [join_S]; exact h t' k
end
end Mine

end

theorem Mine.fresh_D3 : True := by w_top off; trivial
section
open PySem PySem.W PySem.Spec PySem.Calls PyProof.Rows
namespace Mine
set_option maxRecDepth 100000

def greatC (c : Nat) : Nat := if 97 ≤ c ∧ c ≤ 102 then c - 32 else c

theorem great_flat : ∀ xs : List Nat, (xs.map fun c => [greatC c]).flatten = xs.map greatC
  | [] => rfl
  | c :: r => by
    have := great_flat r
    simp [this]
theorem sign_lt_a {c : Nat} (h : (S [c]).cps.toList < (Str.ofString "a").cps.toList) : c < 97 := by
  rw [lit_a] at h
  have h' : [c] < [97] := h
  simpa [List.cons_lt_cons_iff] using h'
theorem f_lt_sign {c : Nat} (h : (Str.ofString "f").cps.toList < (S [c]).cps.toList) : 102 < c := by
  rw [lit_f] at h
  have h' : [102] < [c] := h
  simpa [List.cons_lt_cons_iff] using h'
theorem lt_sign_a {c : Nat} (h : c < 97) : (S [c]).cps.toList < (Str.ofString "a").cps.toList := by
  rw [lit_a]
  show [c] < [97]
  simpa [List.cons_lt_cons_iff] using h
theorem lt_sign_f {c : Nat} (h : 102 < c) : (Str.ofString "f").cps.toList < (S [c]).cps.toList := by
  rw [lit_f]
  show [102] < [c]
  simpa [List.cons_lt_cons_iff] using h
section
local macro_rules | `(tactic| walk_at "eval ListComp") => `(tactic| (refine Stop.at ?_))
set_option maxHeartbeats 4000000 in
theorem great0 {w : World} {xs : List Nat} {tn : Tok} {news : List (Addr × Obj)} (h0 : xs.length ≤ 6) :
    Con w 1 8 98 [.str (S xs) tn] news (fun _ => True)
      (fun v news' => ∃ t, v = .str (S (xs.map greatC)) t ∧ news' = news) := by
  unfold Con
  k_fill
  intro _ p loose mean mg mb dp un gd cn cs a ccd cl outer A₀ base h₀ L m s Q E B F X N T hk hl hd hu ret
  refine wpAny_call ?_
  k_dflt (refine' code_def' [(Str.ofString "text", .str (S xs) tn)] ?k1 ?k2 ?k3 ?k4 ?k5 ?kA ?kF ?kK ?k6 ?k7 ?k8 ?k9 ?kB ?_ ?c2 ?c3 ?c4 ?c5; (case kA => exact rfl); (case kF => exact rfl); (case kK => assumption); (case k1 => k_asm); (case k2 => k_asm); (case k3 => k_asm); (case k4 => k_asm); (case k5 => k_asm); (case k6 => k_is); (case k7 => k_is); (case k8 => ktr_room); (case k9 => exact BindsTo.of_eq rfl); (case c5 => decide); (case kB => exact locs rfl); (case c2 => exact rfl); (case c3 => exact rfl); (case c4 => exact rfl); k_whole; intro g' L' h' tk' FG' F' N' B' X' T'; (replace F' : Fr g' L' h' (fm [(Str.ofString "text", .str (S xs) tn)]) := F'); (try dsimp only); (try k_lift B'); (try k_fold))
  k_steps
  refine Stop.go ?_
  k_dflt (refine LC_str (h₀ := g') (L := L') (m := fm [(Str.ofString "text", .str (S xs) tn)]) (by with_unfolding_all rfl) (by decide) (by rfl) (by decide) (by rfl) ?_)
  k_steps
  refine ⟨_, _, _, rfl, rfl, by assumption, by assumption, by simp; rw [sizeLine_eq]; omega, fun g => ?_⟩
  have e : (S xs).cps.size = xs.length := by simp
  rw [e]
  refine ct_rest (fun c => [greatC c]) ?_ ?_
  · intro c t I oI C oC D m₂ ys h tk E' hc hC hx F3 N3 off ne
    k_steps
    · have hlt : c < 97 := sign_lt_a (by assumption)
      refine LCg.CompEnd.intro F3 N3 news (fun _ hp => hp) off trivial ⟨rfl, t, ?_⟩
      simp only [greatC]
      rw [if_neg (by omega)]
    · have hlt : 102 < c := f_lt_sign (by assumption)
      refine LCg.CompEnd.intro F3 N3 news (fun _ hp => hp) off trivial ⟨rfl, t, ?_⟩
      simp only [greatC]
      rw [if_neg (by omega)]
    · have h1' : 97 ≤ c := Nat.not_lt.mp fun q => absurd (lt_sign_a q) (by assumption)
      have h2' : c ≤ 102 := Nat.not_lt.mp fun q => absurd (lt_sign_f q) (by assumption)
      refine chr_of_range (by omega) (by omega) ?_
      have e1 : ((c : Int) - 32).toNat = c - 32 := by omega
      have e2 : (⟨#[((c : Int) - 32).toNat]⟩ : Str) = S [greatC c] := by
        simp only [greatC]
        rw [if_pos ⟨h1', h2'⟩, e1]
      exact LCg.CompEnd.intro F3 N3 news (fun _ hp => hp) off trivial ⟨rfl, _, congrArg (fun x => Value.str x _) e2⟩
  · intro ys hys D h tk F3 N3 o1
    have hys' : StrsAre ys ((xs.map fun c => [greatC c]).map S) := by rw [List.map_map]; exact hys
    have hfl := great_flat xs
    k_steps
    refine s_join N3 (.head _) hys' lit_empty (by rw [hfl, List.length_map]; omega) ?_
    intro t2 k2
    rw [hfl]
    have N4 := News.perm N3 (news' := news) fun p hp => .tail _ hp
    k_steps
    exact ret _ _ _ _ ⟨_, rfl, rfl⟩ (by assumption) (by assumption)
end
end Mine

end

theorem Mine.fresh_D4 : True := by w_top off; trivial
section
open PySem PySem.W PySem.Spec PySem.Calls PyProof.Rows
namespace Mine
set_option maxRecDepth 100000

def meantC (n : Int) : Nat := if n = 0 ∨ n > 1114111 ∨ (55296 ≤ n ∧ n ≤ 57343) then 65533 else n.toNat
theorem meant_bad {n : Int} (h : n = 0 ∨ n > 1114111 ∨ (55296 ≤ n ∧ n ≤ 57343)) : meantC n = 65533 := if_pos h
theorem meant_good {n : Int} (h : ¬ (n = 0 ∨ n > 1114111 ∨ (55296 ≤ n ∧ n ≤ 57343))) : meantC n = n.toNat := if_neg h

section
set_option maxHeartbeats 4000000 in
theorem meant0 {w : World} {n : Int} {tn : Tok} {news : List (Addr × Obj)} (h0 : 0 ≤ n) :
    Con w 1 8 105 [.int n tn] news (fun _ => True)
      (fun v news' => ∃ t, v = .str (S [meantC n]) t ∧ news' = news) := by
  unfold Con
  k_fill
  intro _ p loose mean mg mb dp un gd cn cs a ccd cl outer A₀ base h₀ L m s Q E B F X N T hk hl hd hu ret
  refine wpAny_call ?_
  k_dflt (refine' code_def' [(Str.ofString "n", .int n tn)] ?k1 ?k2 ?k3 ?k4 ?k5 ?kA ?kF ?kK ?k6 ?k7 ?k8 ?k9 ?kB ?_ ?c2 ?c3 ?c4 ?c5; (case kA => exact rfl); (case kF => exact rfl); (case kK => assumption); (case k1 => k_asm); (case k2 => k_asm); (case k3 => k_asm); (case k4 => k_asm); (case k5 => k_asm); (case k6 => k_is); (case k7 => k_is); (case k8 => ktr_room); (case k9 => exact BindsTo.of_eq rfl); (case c5 => decide); (case kB => exact locs rfl); (case c2 => exact rfl); (case c3 => exact rfl); (case c4 => exact rfl); k_whole; intro g' L' h' tk' FG' F' N' B' X' T'; (replace F' : Fr g' L' h' (fm [(Str.ofString "n", .int n tn)]) := F'); (try dsimp only); (try k_lift B'); (try k_fold))
  k_steps
  all_goals first
    | exact ret _ _ _ _ ⟨_, congrArg (fun x => Value.str x _) (lit_repl.trans (congrArg (fun c => S [c]) (meant_bad (by omega)).symm)), rfl⟩ (by assumption) (by assumption)
    | exact ret _ _ _ _ ⟨_, congrArg (fun c => Value.str (S [c]) _) (meant_good (by omega)).symm, rfl⟩ (by assumption) (by assumption)
end
end Mine

end

theorem Mine.fresh_Base4 : True := by w_top off; trivial
section
open PySem PySem.W PySem.Spec PySem.Calls PyProof.Rows
namespace Mine
set_option maxRecDepth 100000

theorem Con.use {w : World} {D U : Nat} {f : Addr} {vs : List Value} {news : List (Addr × Obj)} {Pre : Heap → Prop} {R : Value → List (Addr × Obj) → Prop} (C : Con w D U f vs news Pre R)
    {p : Program} {loose : List Str} {mean : ExcName → Option Value} {mg mb : Str → Option Value}
    {dp un : Nat} {gd : Option (List Code)} {cn : Str} {cs : Scope} {a : Addr} {ccd : Value} {cl : List (Str × Addr)} {outer : List Env} {A₀ : Around} {base h₀ : Heap} {L : Addr} {m : Str → Option Value} {s : Shared} {Q E : Value → Shared → Prop}
    (B : Below A₀ base outer h₀) (F : Fr h₀ L s.heap m) (X : (hd.heap_39 w.params).In h₀) (N : News h₀ L s.heap news) (T : Top p loose mean mg mb h₀) (hk : cs.kind = .function) (hp : Pre base) (hd : dp + D < recursionLimit) (hu : un + U < cLine)
    (ret : ∀ v h' tk' news', R v news' → Fr h₀ L h' m → News h₀ L h' news' → Q v { s with heap := h', toks := tk' }) :
    wpAny (model PySem.Challenge.rw_bc6008_01.prog w) (ktrTop dp un gd cn cs L a ccd cl outer) (call (.ref f) vs) Q E s :=
  C rfl p loose mean mg mb dp un gd cn cs a ccd cl outer A₀ base h₀ L m s Q E B F X N T hk hp hd hu ret

def strIs (v : Option Value) (a : List Nat) : Bool := match v with
  | some (.str x _) => x == S a
  | _ => false
def tabOk (items : Array Value) (tab : List (List Nat)) : Bool := items.size == tab.length && decide (tab.length < 100) && (List.range tab.length).all fun j => strIs items[j]? (tab.getD j [])
theorem strIs_spec {v : Option Value} {a : List Nat} (h : strIs v a = true) : ∃ t, v = some (.str (S a) t) := by
  unfold strIs at h
  split at h
  · rename_i x t
    exact ⟨t, by rw [beq_iff_eq.mp h]⟩
  · cases h
def intIs (v : Option Value) (a : Int) : Bool := match v with
  | some (.int x _) => x == a
  | _ => false
def tabOkI (items : Array Value) (tab : List Int) : Bool := items.size == tab.length && decide (tab.length < 100) && (List.range tab.length).all fun j => intIs items[j]? (tab.getD j 0)
theorem intIs_spec {v : Option Value} {a : Int} (h : intIs v a = true) : ∃ t, v = some (.int a t) := by
  unfold intIs at h
  split at h
  · rename_i x t
    exact ⟨t, by rw [beq_iff_eq.mp h]⟩
  · cases h
section
variable {prog : Program} {w : World} {A : Around} {E : Value → Shared → Prop} {s : Shared} {h₀ : Heap} {L : Addr} {m : Str → Option Value} {K : Frag} {value slice : PySem.Expr} {l : Addr} {i : Int} {u : Tok} {items : Array Value} {n : Nat} {od : Option Addr} {sl : Array (Option Value)} {Q : Value → Shared → Prop}
theorem tab_str {tab : List (List Nat)} (F : Fr h₀ L s.heap m) (X : K.In h₀) (ho : K.lookup l = some ⟨.type "tuple", od, .seq items n, sl⟩) (hok : tabOk items tab = true) (h0 : 0 ≤ i) (h1 : i < tab.length)
    (h : ∀ t, Q (.str (S (tab.getD i.toNat [])) t) s)
    (hs : subscripted slice false (.ref l) (.int i u) = operate [.ref l, .int i u] (getItem (.ref l) (.int i u)) := by with_unfolding_all rfl) (hg : ∀ r, letTemporaryGo value (.ref l) r = pure () := by intro _; with_unfolding_all rfl) :
    wpAny (model prog w) A (subscriptTail value slice (.ref l) (.int i u)) Q E s := by
  unfold tabOk at hok
  simp only [Bool.and_eq_true, beq_iff_eq, decide_eq_true_eq] at hok
  obtain ⟨⟨e1, e2⟩, e3⟩ := hok
  have e4 := List.all_eq_true.mp e3 i.toNat (List.mem_range.mpr (by omega))
  obtain ⟨t, e5⟩ := strIs_spec e4
  exact item_tuple (j := i.toNat) ⟨_, F.keep _ _ (X _ _ ho), rfl, n, rfl⟩ (by omega) (by omega) (by
    unfold PySem.seqIndex?
    have hn : ¬ i < 0 := by omega
    have hlt : i < items.size := by omega
    simp [hn, h0, hlt]) e5 (h t) hs hg
theorem tab_int {tab : List Int} (F : Fr h₀ L s.heap m) (X : K.In h₀) (ho : K.lookup l = some ⟨.type "tuple", od, .seq items n, sl⟩) (hok : tabOkI items tab = true) (h0 : 0 ≤ i) (h1 : i < tab.length)
    (h : ∀ t, Q (.int (tab.getD i.toNat 0) t) s)
    (hs : subscripted slice false (.ref l) (.int i u) = operate [.ref l, .int i u] (getItem (.ref l) (.int i u)) := by with_unfolding_all rfl) (hg : ∀ r, letTemporaryGo value (.ref l) r = pure () := by intro _; with_unfolding_all rfl) :
    wpAny (model prog w) A (subscriptTail value slice (.ref l) (.int i u)) Q E s := by
  unfold tabOkI at hok
  simp only [Bool.and_eq_true, beq_iff_eq, decide_eq_true_eq] at hok
  obtain ⟨⟨e1, e2⟩, e3⟩ := hok
  have e4 := List.all_eq_true.mp e3 i.toNat (List.mem_range.mpr (by omega))
  obtain ⟨t, e5⟩ := intIs_spec e4
  exact item_tuple (j := i.toNat) ⟨_, F.keep _ _ (X _ _ ho), rfl, n, rfl⟩ (by omega) (by omega) (by
    unfold PySem.seqIndex?
    have hn : ¬ i < 0 := by omega
    have hlt : i < items.size := by omega
    simp [hn, h0, hlt]) e5 (h t) hs hg
end
section
variable {prog : Program} {w : World} {A : Around} {E : Value → Shared → Prop} {s : Shared} {h₀ : Heap} {L : Addr} {m : Str → Option Value} {K : Frag} {value slice : PySem.Expr} {l : Addr} {i : Int} {u : Tok} {items : Array Value} {n : Nat} {od : Option Addr} {sl : Array (Option Value)} {Q : Value → Shared → Prop}
theorem getD_mem {α : Type} {l : List α} {d : α} {j : Nat} (h : j < l.length) : l.getD j d ∈ l := by
  rw [List.getD_eq_getElem?_getD, List.getElem?_eq_getElem h]
  exact List.getElem_mem h
theorem tab_sign {tab : List (List Nat)} (F : Fr h₀ L s.heap m) (X : K.In h₀) (ho : K.lookup l = some ⟨.type "tuple", od, .seq items n, sl⟩) (hok : tabOk items tab = true) (hone : (tab.all fun x => x.length == 1) = true) (h0 : 0 ≤ i) (h1 : i < tab.length)
    (h : ∀ c t, [c] ∈ tab → Q (.str (S [c]) t) s)
    (hs : subscripted slice false (.ref l) (.int i u) = operate [.ref l, .int i u] (getItem (.ref l) (.int i u)) := by with_unfolding_all rfl) (hg : ∀ r, letTemporaryGo value (.ref l) r = pure () := by intro _; with_unfolding_all rfl) :
    wpAny (model prog w) A (subscriptTail value slice (.ref l) (.int i u)) Q E s := by
  refine tab_str F X ho hok h0 h1 (fun t => ?_) hs hg
  have hm : tab.getD i.toNat [] ∈ tab := getD_mem (by omega)
  have h2 := List.all_eq_true.mp hone _ hm
  generalize tab.getD i.toNat [] = y at hm h2
  match y, h2 with
  | [c], _ => exact h c t hm
theorem tab_text {tab : List (List Nat)} (F : Fr h₀ L s.heap m) (X : K.In h₀) (ho : K.lookup l = some ⟨.type "tuple", od, .seq items n, sl⟩) (hok : tabOk items tab = true) (h0 : 0 ≤ i) (h1 : i < tab.length)
    (h : ∀ x t, x ∈ tab → Q (.str (S x) t) s)
    (hs : subscripted slice false (.ref l) (.int i u) = operate [.ref l, .int i u] (getItem (.ref l) (.int i u)) := by with_unfolding_all rfl) (hg : ∀ r, letTemporaryGo value (.ref l) r = pure () := by intro _; with_unfolding_all rfl) :
    wpAny (model prog w) A (subscriptTail value slice (.ref l) (.int i u)) Q E s :=
  tab_str F X ho hok h0 h1 (fun t => h _ t (getD_mem (by omega))) hs hg
theorem tab_num {tab : List Int} {lo hi : Int} (F : Fr h₀ L s.heap m) (X : K.In h₀) (ho : K.lookup l = some ⟨.type "tuple", od, .seq items n, sl⟩) (hok : tabOkI items tab = true) (hb : (tab.all fun x => decide (lo ≤ x) && decide (x < hi)) = true) (h0 : 0 ≤ i) (h1 : i < tab.length)
    (h : ∀ x t, lo ≤ x → x < hi → Q (.int x t) s)
    (hs : subscripted slice false (.ref l) (.int i u) = operate [.ref l, .int i u] (getItem (.ref l) (.int i u)) := by with_unfolding_all rfl) (hg : ∀ r, letTemporaryGo value (.ref l) r = pure () := by intro _; with_unfolding_all rfl) :
    wpAny (model prog w) A (subscriptTail value slice (.ref l) (.int i u)) Q E s := by
  refine tab_int F X ho hok h0 h1 (fun t => ?_) hs hg
  have h2 := List.all_eq_true.mp hb _ (getD_mem (l := tab) (d := 0) (j := i.toNat) (by omega))
  simp only [Bool.and_eq_true, decide_eq_true_eq] at h2
  exact h _ t h2.1 h2.2
theorem mod_rng {a b : Int} {t : Tok} (hb : 0 < b) (hb2 : b < 1073741824) (h : ∀ y t', 0 ≤ y → y < b → Q (.int y t') { s with toks := s.toks + 1 }) : wpAny (model prog w) A (binaryOp .Mod (.int a t) (.int b u)) Q E s := by
  have hr := fmod_range (x := a) hb
  exact mod_int' (by omega) (h _ _ hr.1 hr.2)
end
section
variable {prog : Program} {w : World} {A A₀ : Around} {E : Value → Shared → Prop} {s : Shared} {h₀ base h : Heap} {outer : List Env} {L : Addr} {m : Str → Option Value} {value slice : PySem.Expr} {l : Addr} {k : Int} {u : Tok} {en : Nat} {vs : List Value} {ns : List Int} {p : Addr × Obj} {rest : List (Addr × Obj)} {Q : Value → Shared → Prop}
theorem told_at (hl : base.IsList l vs.toArray ∨ (l, W.listOf vs.toArray en) ∈ rest) (B : Below A₀ base outer h₀) (F : Fr h₀ L h m) (N : News h₀ L h (p :: rest)) : h.IsList l vs.toArray := by
  rcases hl with hl | hl
  · obtain ⟨o, ho, r⟩ := hl
    exact ⟨o, F.keep _ _ (B.stays _ _ ho), r⟩
  · exact isL N (.tail _ hl)
theorem len_T (hl : s.heap.IsList l vs.toArray) (hi : IntsAre vs ns) (hlen : ns.length ≤ 63) (h : ∀ t, Q (.int ns.length t) { s with toks := s.toks + 1 + 1 }) :
    wpAny (model prog w) A (call (.builtin "len") [.ref l]) Q E s := by
  have e : vs.toArray.size = ns.length := by rw [List.size_toArray]; exact hi.length
  refine len_list hl (by rw [e]; omega) ?_
  rw [e]
  exact h _
theorem item_T (hl : s.heap.IsList l vs.toArray) (hi : IntsAre vs ns) (hlen0 : 0 < ns.length) (hlen : ns.length ≤ 63) (h : ∀ x t, Q (.int x t) s)
    (hs : subscripted slice false (.ref l) (.int (k.fmod ns.length) u) = operate [.ref l, .int (k.fmod ns.length) u] (getItem (.ref l) (.int (k.fmod ns.length) u)) := by with_unfolding_all rfl) (hg : ∀ r, letTemporaryGo value (.ref l) r = pure () := by intro _; with_unfolding_all rfl) :
    wpAny (model prog w) A (subscriptTail value slice (.ref l) (.int (k.fmod ns.length) u)) Q E s := by
  have hr := fmod_range (x := k) (b := ns.length) (by omega)
  exact item_list_ints hl hi hr.1 hr.2 (by omega) (fun t => h _ t) hs hg
end
def plainT : List (List Nat) := [[97],[102],[48],[57],[103],[45],[233],[128512],[70],[122]]
def signT : List (List Nat) := [[103],[122],[32],[46],[92],[39],[233],[9],[95],[35]]
def endT : List (List Nat) := [[],[32],[9],[10],[13,10],[13],[12]]
def numT : List Int := [0, 55296, 57343, 55295, 57344, 1114111, 1114112, 16777215, 65, 8364, 128512, 127]
end Mine

end

theorem Mine.fresh_Base5 : True := by w_top off; trivial
section
open PySem PySem.W PySem.Spec PySem.Calls PyProof.Rows
namespace Mine
set_option maxRecDepth 100000

theorem idx_clip (i j : Int) (n : Nat) (h0 : 0 ≤ i) (h1 : 0 ≤ j) : PySem.Builtin.Str.strSliceIndices (some i) (some j) 1 n = PySem.Builtin.Str.strSliceIndices (some (min i n)) (some (min j n)) 1 n := by
  unfold PySem.Builtin.Str.strSliceIndices
  have e1 : ¬ i < 0 := by omega
  have e2 : ¬ j < 0 := by omega
  have e3 : ¬ min i (n : Int) < 0 := by omega
  have e4 : ¬ min j (n : Int) < 0 := by omega
  simp only [e1, e2, e3, e4, if_false]
  have a1 : min (min i (n : Int)) n = min i n := by omega
  have a2 : min (min j (n : Int)) n = min j n := by omega
  have p : (1 : Int) > 0 := by decide
  simp only [p, if_true]
  rw [a1, a2]
theorem idx_clip' (j : Int) (n : Nat) (h1 : 0 ≤ j) : PySem.Builtin.Str.strSliceIndices none (some j) 1 n = PySem.Builtin.Str.strSliceIndices none (some (min j n)) 1 n := by
  unfold PySem.Builtin.Str.strSliceIndices
  have e2 : ¬ j < 0 := by omega
  have e4 : ¬ min j (n : Int) < 0 := by omega
  simp only [e2, e4, if_false]
  have a2 : min (min j (n : Int)) n = min j n := by omega
  have p : (1 : Int) > 0 := by decide
  simp only [p, if_true]
  rw [a2]
theorem take_drop_clip (a : List Nat) (i j : Nat) : (a.drop (min i a.length)).take (min j a.length - min i a.length) = (a.drop i).take (j - i) := by
  by_cases h : i ≤ a.length
  · rw [Nat.min_eq_left h]
    by_cases h2 : j ≤ a.length
    · rw [Nat.min_eq_left h2]
    · have e : min j a.length = a.length := by omega
      rw [e, List.take_of_length_le (by simp), List.take_of_length_le (by simp; omega)]
  · have e : min i a.length = a.length := by omega
    rw [e, List.drop_of_length_le (Nat.le_refl _), List.drop_of_length_le (i := i) (by omega)]
    simp
theorem slice_S {a : List Nat} {i j : Int} (h0 : 0 ≤ i) (h1 : i ≤ j) : Txt.slice (S a) (some i) (some j) = S ((a.drop i.toNat).take (j.toNat - i.toNat)) := by
  have e : Txt.slice (S a) (some i) (some j) = Txt.slice (S a) (some (min i a.length)) (some (min j a.length)) := by
    unfold Txt.slice
    rw [S_len, idx_clip i j a.length h0 (by omega)]
  rw [e]
  have h := beq_iff_eq.mp (slice_closes (x := S a) (i := min i a.length) (j := min j a.length) ⟨by omega, by omega, by simp; omega⟩)
  rw [h]
  have e1 : (min i (a.length : Int)).toNat = min i.toNat a.length := by omega
  have e2 : (min j (a.length : Int) - min i (a.length : Int)).toNat = min j.toNat a.length - min i.toNat a.length := by omega
  rw [e1, e2]
  exact congrArg S (take_drop_clip a _ _)
theorem slice_to_S {a : List Nat} {j : Int} (h1 : 0 ≤ j) : Txt.slice (S a) none (some j) = S (a.take j.toNat) := by
  have e : Txt.slice (S a) none (some j) = Txt.slice (S a) none (some (min j a.length)) := by
    unfold Txt.slice
    rw [S_len, idx_clip' j a.length (by omega)]
  rw [e]
  have h := beq_iff_eq.mp (slice_closes_to (x := S a) (j := min j a.length) ⟨by omega, by simp; omega⟩)
  rw [h]
  have e2 : (min j (a.length : Int) - 0).toNat = min j.toNat a.length := by omega
  rw [e2]
  have := take_drop_clip a 0 j.toNat
  simp only [Nat.zero_min, Nat.sub_zero, List.drop_zero] at this
  exact congrArg S this
section
variable {prog : Program} {w : World} {A : Around} {E : Value → Shared → Prop} {s : Shared} {h₀ : Heap} {L : Addr} {m : Str → Option Value} {news : List (Addr × Obj)} {value slice : PySem.Expr} {x : Str} {t : Tok} {a : List Nat} {Q : Value → Shared → Prop}
theorem s_slice {i j : Int} {ui uj : Tok} (hF : Fr h₀ L s.heap m) (hN : News h₀ L s.heap news) (hx : x = S a) (h0 : 0 ≤ i) (h1 : i ≤ j) (hsz : a.length ≤ 16777216)
    (h : ∀ h' t' k, Fr h₀ L h' m → News h₀ L h' news → Q (.str (S ((a.drop i.toNat).take (j.toNat - i.toNat))) t') { s with heap := h', toks := k })
    (hs : subscripted slice false (.str x t) (.ref s.heap.objs.size) = operate [.ref s.heap.objs.size, .str x t] (getItem (.str x t) (.ref s.heap.objs.size)) := by with_unfolding_all rfl)
    (ht : ∀ r, letTemporaryGo value (.str x t) r = pure () := by intro _; with_unfolding_all rfl) :
    wpAny (model prog w) A (subscriptTail value slice (.str x t) (.ref s.heap.objs.size)) Q E { s with heap := s.heap.push { cls := .type "slice", data := .fields #[.int i ui, .int j uj, .none] } } := by
  subst hx
  exact slice_strN_ss hF hN (fun h' t' k a b => by rw [slice_S h0 h1]; exact h h' t' k a b) hs ht (by rw [S_len, sizeLine_eq]; exact hsz)
theorem s_slice_to {j : Int} {uj : Tok} (hF : Fr h₀ L s.heap m) (hN : News h₀ L s.heap news) (hx : x = S a) (h1 : 0 ≤ j) (hsz : a.length ≤ 16777216)
    (h : ∀ h' t' k, Fr h₀ L h' m → News h₀ L h' news → Q (.str (S (a.take j.toNat)) t') { s with heap := h', toks := k })
    (hs : subscripted slice false (.str x t) (.ref s.heap.objs.size) = operate [.ref s.heap.objs.size, .str x t] (getItem (.str x t) (.ref s.heap.objs.size)) := by with_unfolding_all rfl)
    (ht : ∀ r, letTemporaryGo value (.str x t) r = pure () := by intro _; with_unfolding_all rfl) :
    wpAny (model prog w) A (subscriptTail value slice (.str x t) (.ref s.heap.objs.size)) Q E { s with heap := s.heap.push { cls := .type "slice", data := .fields #[.none, .int j uj, .none] } } := by
  subst hx
  exact slice_strN_ns hF hN (fun h' t' k a b => by rw [slice_to_S h1]; exact h h' t' k a b) hs ht (by rw [S_len, sizeLine_eq]; exact hsz)
end
end Mine

end

theorem Mine.fresh_Base6 : True := by w_top off; trivial
section
open PySem PySem.W PySem.Spec PySem.Calls PyProof.Rows
namespace Mine
set_option maxRecDepth 100000

def IsUn (o : Obj) (k : Int) (a b c : List Nat) : Prop := ∃ t0 t1 t2 t3, o = { cls := .type "tuple", data := .seq [.int k t0, .str (S a) t1, .str (S b) t2, .str (S c) t3].toArray }
structure U where
  k : Int
  a : List Nat
  b : List Nat
  c : List Nat
def IsU (o : Obj) (u : U) : Prop := IsUn o u.k u.a u.b u.c
def UB (u : U) : Prop := u.a.length ≤ 6 ∧ u.b.length ≤ 6 ∧ u.c.length ≤ 6
def noU : U := ⟨0, [], [], []⟩
theorem noU_is {t0 t1 t2 t3 : Tok} : IsU ({ cls := .type "tuple", data := .seq [.int 0 t0, .str (Str.ofString "") t1, .str (Str.ofString "") t2, .str (Str.ofString "") t3].toArray } : Obj) noU :=
  ⟨t0, t1, t2, t3, by rw [lit_empty]; rfl⟩
def fmO : List (Str × Value) → (Str → Option Value) → Str → Option Value
  | [], r => r
  | (x, v) :: l, r => fun y => if y = x then some v else fmO l r y
theorem fmO_eq {m : Str → Option Value} : ∀ {l : List (Str × Value)} {y : Str}, FmHas m l → m y = fmO l m y
  | [], _, _ => rfl
  | p :: r, y, h1 => by
    show m y = if y = p.1 then some p.2 else fmO r m y
    by_cases e : y = p.1
    · rw [if_pos e, e]; exact h1.1
    · rw [if_neg e]; exact fmO_eq h1.2
theorem Fr_fmO {h₀ h : Heap} {L : Addr} {m : Str → Option Value} (F : Fr h₀ L h m) (l : List (Str × Value)) (h1 : FmHas m l) : Fr h₀ L h (fmO l m) := Fr_eqv F fun _ => fmO_eq h1
/-- the list of units, laid -/
def UsAt (news : List (Addr × Obj)) (lu : Addr) (us : List U) : Prop :=
  ∃ (as : List Addr) (e : Nat), (lu, W.listOf (as.map Value.ref).toArray e) ∈ news ∧ as.length = us.length ∧ ∀ (i : Nat) (a : Addr) (u : U), as[i]? = some a → us[i]? = some u → ∃ o, (a, o) ∈ news ∧ IsU o u
theorem UsAt.mono {news led : List (Addr × Obj)} {lu : Addr} {us : List U} (h : UsAt news lu us) (hs : ∀ p ∈ news, p ∈ led) : UsAt led lu us := by
  obtain ⟨as, e, h1, h2, h3⟩ := h
  exact ⟨as, e, hs _ h1, h2, fun i a u ha hu => let ⟨o, ho, r⟩ := h3 i a u ha hu; ⟨o, hs _ ho, r⟩⟩

section
variable {prog : Program} {w : World} {A : Around} {E : Value → Shared → Prop} {s : Shared} {h₀ : Heap} {L : Addr} {news led : List (Addr × Obj)} {value slice : PySem.Expr} {lu a : Addr} {us : List U} {u : U} {o : Obj} {i : Int} {tk : Tok} {Q : Value → Shared → Prop}
theorem us_len (hU : UsAt news lu us) (N : News h₀ L s.heap led) (hs : ∀ p ∈ news, p ∈ led) (h8 : us.length ≤ 8) (h : ∀ t, Q (.int us.length t) { s with toks := s.toks + 1 + 1 }) :
    wpAny (model prog w) A (call (.builtin "len") [.ref lu]) Q E s := by
  obtain ⟨as, e, h1, h2, _⟩ := hU
  have e : (as.map Value.ref).toArray.size = us.length := by simp [h2]
  refine len_list (isL N (hs _ h1)) (by rw [e]; omega) ?_
  rw [e]
  exact h _
theorem us_item (hU : UsAt news lu us) (N : News h₀ L s.heap led) (hs : ∀ p ∈ news, p ∈ led) (h8 : us.length ≤ 8) (hb : ∀ u ∈ us, UB u) (h0 : 0 ≤ i) (h1 : i < us.length)
    (h : ∀ a o u, us[i.toNat]? = some u → (a, o) ∈ news → IsU o u → u.a.length ≤ 6 → u.b.length ≤ 6 → u.c.length ≤ 6 → Q (.ref a) s)
    (hp : subscripted slice false (.ref lu) (.int i tk) = operate [.ref lu, .int i tk] (getItem (.ref lu) (.int i tk)) := by with_unfolding_all rfl) (hg : ∀ r, letTemporaryGo value (.ref lu) r = pure () := by intro _; with_unfolding_all rfl) :
    wpAny (model prog w) A (subscriptTail value slice (.ref lu) (.int i tk)) Q E s := by
  obtain ⟨as, e, h2, h3, h4⟩ := hU
  have hi : i.toNat < as.length := by omega
  have hi' : i.toNat < us.length := by omega
  obtain ⟨o, ho, hu⟩ := h4 i.toNat as[i.toNat] us[i.toNat] (List.getElem?_eq_getElem hi) (List.getElem?_eq_getElem hi')
  exact item_list (isL N (hs _ h2)) h0 (by omega) (x := .ref as[i.toNat]) (by simp [hi]) (h _ o _ (List.getElem?_eq_getElem hi') ho hu (hb _ (List.getElem_mem hi')).1 (hb _ (List.getElem_mem hi')).2.1 (hb _ (List.getElem_mem hi')).2.2) hp hg
theorem un_0 (N : News h₀ L s.heap led) (hm : (a, o) ∈ led) (ho : IsU o u) (h : ∀ t, Q (.int u.k t) s)
    (hp : subscripted slice false (.ref a) (.int 0 tk) = operate [.ref a, .int 0 tk] (getItem (.ref a) (.int 0 tk)) := by with_unfolding_all rfl) (hg : ∀ r, letTemporaryGo value (.ref a) r = pure () := by intro _; with_unfolding_all rfl) :
    wpAny (model prog w) A (subscriptTail value slice (.ref a) (.int 0 tk)) Q E s := by
  obtain ⟨t0, t1, t2, t3, rfl⟩ := ho
  exact item_tuple (j := 0) ⟨_, N.get hm, rfl, 0, rfl⟩ (by decide) (by decide) rfl rfl (h _) hp hg
theorem un_1 (N : News h₀ L s.heap led) (hm : (a, o) ∈ led) (ho : IsU o u) (h : ∀ t, Q (.str (S u.a) t) s)
    (hp : subscripted slice false (.ref a) (.int 1 tk) = operate [.ref a, .int 1 tk] (getItem (.ref a) (.int 1 tk)) := by with_unfolding_all rfl) (hg : ∀ r, letTemporaryGo value (.ref a) r = pure () := by intro _; with_unfolding_all rfl) :
    wpAny (model prog w) A (subscriptTail value slice (.ref a) (.int 1 tk)) Q E s := by
  obtain ⟨t0, t1, t2, t3, rfl⟩ := ho
  exact item_tuple (j := 1) ⟨_, N.get hm, rfl, 0, rfl⟩ (by decide) (by decide) rfl rfl (h _) hp hg
theorem un_2 (N : News h₀ L s.heap led) (hm : (a, o) ∈ led) (ho : IsU o u) (h : ∀ t, Q (.str (S u.b) t) s)
    (hp : subscripted slice false (.ref a) (.int 2 tk) = operate [.ref a, .int 2 tk] (getItem (.ref a) (.int 2 tk)) := by with_unfolding_all rfl) (hg : ∀ r, letTemporaryGo value (.ref a) r = pure () := by intro _; with_unfolding_all rfl) :
    wpAny (model prog w) A (subscriptTail value slice (.ref a) (.int 2 tk)) Q E s := by
  obtain ⟨t0, t1, t2, t3, rfl⟩ := ho
  exact item_tuple (j := 2) ⟨_, N.get hm, rfl, 0, rfl⟩ (by decide) (by decide) rfl rfl (h _) hp hg
theorem un_3 (N : News h₀ L s.heap led) (hm : (a, o) ∈ led) (ho : IsU o u) (h : ∀ t, Q (.str (S u.c) t) s)
    (hp : subscripted slice false (.ref a) (.int 3 tk) = operate [.ref a, .int 3 tk] (getItem (.ref a) (.int 3 tk)) := by with_unfolding_all rfl) (hg : ∀ r, letTemporaryGo value (.ref a) r = pure () := by intro _; with_unfolding_all rfl) :
    wpAny (model prog w) A (subscriptTail value slice (.ref a) (.int 3 tk)) Q E s := by
  obtain ⟨t0, t1, t2, t3, rfl⟩ := ho
  exact item_tuple (j := 3) ⟨_, N.get hm, rfl, 0, rfl⟩ (by decide) (by decide) rfl rfl (h _) hp hg
end
theorem range_fine {n : Nat} (hn : n < 1000) : Builtin.Range.small 0 (n : Int) 1 = true ∧ Builtin.Range.rangeSize 0 (n : Int) 1 = ((n : Nat) : Int) := by
  have hsz : Builtin.Range.rangeSize 0 (n : Int) 1 = (n : Int) := by
    unfold Builtin.Range.rangeSize
    have p : (1 : Int) > 0 := by decide
    simp only [p, if_true]
    split
    · rw [Int.ediv_one]; omega
    · omega
  refine ⟨?_, hsz⟩
  unfold Builtin.Range.small
  simp only [hsz]
  have f : ∀ z : Int, 0 ≤ z → z < 1000 → Builtin.Range.rangeFitsLong z = true := by
    intro z h0 h1
    unfold Builtin.Range.rangeFitsLong
    simp only [Bool.and_eq_true, decide_eq_true_eq]
    omega
  rw [f 0 (by decide) (by decide), f n (by omega) (by omega), f 1 (by decide) (by decide)]
  have p : (1 : Int) > 0 := by decide
  simp only [p, if_true]
  rw [f ((n : Int) + (1 - 1)) (by omega) (by omega)]
  simp
section
variable {prog : Program} {w : World} {A : Around} {E : Value → Shared → Prop} {s : Shared} {env : Env} {h₀ : Heap} {x : Str} {body : List Stmt} {Q : Flow → Shared → Prop}
/-- a loop over range(n) by what holds ahead of each turn -/
theorem for_range {r : Addr} {t₀ u₀ v₀ : Tok} {n : Nat} {m₀ : Str → Option Value} {news : List (Addr × Obj)} (J : Nat → (Str → Option Value) → List (Addr × Obj) → Prop)
    (hh : A.handled = none) (hr : IsRange s.heap r 0 n 1 t₀ u₀ v₀) (hn : n < 1000) (F : Fr h₀ env.locals s.heap m₀) (N : News h₀ env.locals s.heap news) (hJ : J 0 m₀ news)
    (turn : ∀ i m₁ news₁ h tk own t, i < n → OwnOff own (news.map (·.1)) → J i m₁ news₁ → Fr h₀ env.locals h (fun y => if y = x then some (.int (i : Int) t) else m₁ y) → News h₀ env.locals h (news₁ ++ own) →
      wpAny (model prog w) A (execs body env) (InvPostN h₀ env.locals (J (i + 1)) own (news.map (·.1)) { s with heap := h, toks := tk } Q) E { s with heap := h, toks := tk })
    (done : ∀ m₁ news₁ h tk, J n m₁ news₁ → Fr h₀ env.locals h m₁ → News h₀ env.locals h news₁ → Q .next { s with heap := h, toks := tk }) :
    wpAny (model prog w) A (pyIter (.ref r)) (fun it s₂ => LoopAtV prog w A h₀ env x body Q E it s₂) E s := by
  refine kpr_invN J hh hr (range_fine hn).1 (range_fine hn).2 F N hJ ?_ ?_
  · intro i k t m₁ nx h tk own hk hoff hj F₁ N₁
    obtain ⟨hi, e⟩ : i < n ∧ k = (i : Int) := by
      by_cases hi : i < n
      · simp [rangeKs, hi] at hk
        exact ⟨hi, hk.symm⟩
      · rw [List.getElem?_eq_none (by rw [rangeKs_length]; omega)] at hk
        cases hk
    subst e
    exact turn i m₁ nx h tk own t hi hoff hj F₁ N₁
  · intro m₁ nx h tk hj F₁ N₁
    exact done m₁ nx h tk (by rwa [rangeKs_length] at hj) F₁ N₁
end
end Mine

end

theorem Mine.fresh_D5 : True := by w_top off; trivial
section
open PySem PySem.W PySem.Spec PySem.Calls PyProof.Rows
namespace Mine
set_option maxRecDepth 100000

def digU (c : Nat) : Int := if c < 58 then (c : Int) - 48 else if c < 71 then (c : Int) - 55 else (c : Int) - 87
def hexVU : List Nat → Int
  | [] => 0
  | c :: r => digU c * 16 ^ r.length + hexVU r
def hexCU (c : Nat) : Prop := (48 ≤ c ∧ c ≤ 57) ∨ (97 ≤ c ∧ c ≤ 102) ∨ (65 ≤ c ∧ c ≤ 70)
def HexU (ds : List Nat) (n : Int) : Prop := ds ≠ [] ∧ ds.length ≤ 6 ∧ (∀ c ∈ ds, hexCU c) ∧ hexVU ds = n

inductive UnOk : Int → List Nat → List Nat → List Nat → Prop
  | plain (c : Nat) : [c] ∈ plainT → UnOk 0 [c] [c] [c]
  | esc (c : Nat) : [c] ∈ signT → UnOk 2 [92, c] [92, c] [c]
  | num (ds e : List Nat) (n : Int) : HexU ds n → e ∈ endT → 0 ≤ n → n ≠ 92 → UnOk 1 ds e [meantC n]

theorem allLt_mem {D : Addr} : ∀ {l : List (Addr × Obj)}, AllLt D l → ∀ p ∈ l, p.1 < D
  | [], _, _, h => nomatch h
  | q :: r, x, p, h => by
    rcases List.mem_cons.mp h with rfl | h
    · exact x.1
    · exact allLt_mem x.2 p h
theorem hexVU_low : ∀ {ds : List Nat}, (∀ c ∈ ds, hexC c) → hexVU ds = hexV ds
  | [], _ => rfl
  | c :: r, h => by
    have h1 := hexVU_low (ds := r) fun d hd => h d (.tail _ hd)
    have h2 : digU c = dig c := by
      have := h c (.head _)
      unfold hexC at this; unfold digU dig
      split
      · rfl
      · split <;> omega
    show digU c * _ + _ = dig c * _ + _
    rw [h1, h2]
theorem hexU_of {ds : List Nat} {n : Int} (h : HexOf ds n) : HexU ds n :=
  ⟨h.1, h.2.1, (fun c hc => (h.2.2.1 c hc).imp id Or.inl), (hexVU_low h.2.2.1).trans h.2.2.2⟩
theorem hexU_zero {ds : List Nat} {n : Int} (h : HexU ds n) (hl : ds.length < 6) : HexU (48 :: ds) n := by
  obtain ⟨h1, h2, h3, h4⟩ := h
  refine ⟨by simp, by simp; omega, ?_, ?_⟩
  · intro c hc
    rcases List.mem_cons.mp hc with rfl | hc
    · exact .inl (by decide)
    · exact h3 c hc
  · show digU 48 * _ + hexVU ds = n
    have e : digU 48 = 0 := by decide
    rw [e, Int.zero_mul, Int.zero_add, h4]
theorem hexU_pad {ds : List Nat} {n : Int} (h : HexOf ds n) {r : Int} (h0 : 0 ≤ r) (h1 : r < 7 - (ds.length : Int)) : HexU (List.take r.toNat [48, 48, 48, 48, 48, 48] ++ ds) n := by
  have hu := hexU_of h
  have hl : ds.length ≠ 0 := fun e => h.1 (List.eq_nil_of_length_eq_zero e)
  have h6 := h.2.1
  have key : ∀ k : Nat, k + ds.length ≤ 6 → HexU (List.take k [48, 48, 48, 48, 48, 48] ++ ds) n := by
    intro k
    induction k with
    | zero => intro _; simpa using hu
    | succ k ih =>
      intro hk
      have i1 := ih (by omega)
      have e : List.take (k + 1) [48, 48, 48, 48, 48, 48] ++ ds = 48 :: (List.take k [48, 48, 48, 48, 48, 48] ++ ds) := by
        have : k = 0 ∨ k = 1 ∨ k = 2 ∨ k = 3 ∨ k = 4 := by omega
        rcases this with rfl | rfl | rfl | rfl | rfl <;> rfl
      rw [e]
      refine hexU_zero i1 ?_
      simp only [List.length_append, List.length_take, List.length_cons, List.length_nil]
      omega
  exact key _ (by omega)
theorem hexU_great {ds : List Nat} {n : Int} (h : HexU ds n) : HexU (ds.map greatC) n := by
  obtain ⟨h1, h2, h3, h4⟩ := h
  refine ⟨by simpa using h1, by simpa using h2, ?_, ?_⟩
  · intro c hc
    obtain ⟨d, hd, rfl⟩ := List.mem_map.mp hc
    have := h3 d hd
    unfold hexCU at *; unfold greatC
    split <;> omega
  · subst h4
    clear h1 h2
    induction ds with
    | nil => rfl
    | cons c r ih =>
      show digU (greatC c) * 16 ^ (r.map greatC).length + hexVU (r.map greatC) = digU c * 16 ^ r.length + hexVU r
      rw [ih fun d hd => h3 d (.tail _ hd), List.length_map]
      have : digU (greatC c) = digU c := by
        have := h3 c (.head _)
        unfold hexCU at this; unfold digU greatC
        split <;> (repeat' split) <;> omega
      rw [this]

section
local macro_rules | `(tactic| k_all) => `(tactic| with_reducible assumption)
local macro_rules | `(tactic| k_mem) => `(tactic| with_reducible assumption)
local macro_rules | `(tactic| walk_at "call ref") => `(tactic| (k_here; k_dflt (refine' Con.use (drawn0 ?hne ?hi ?hl0 ?hl1 ?hk0 ?hk1 ?hb0 ?hb1) ?B ?F ?X ?N ?T ?hk ?hp ?hd ?hu ?_; (case B => k_asm); (case F => k_asm); (case X => k_asm); (case N => k_asm); (case T => k_asm); (case hne => with_reducible assumption); (case hi => with_reducible assumption); (case hl0 => with_reducible assumption); (case hl1 => with_reducible assumption); (case hk0 => omega); (case hk1 => omega); (case hb0 => omega); (case hb1 => omega); (case hk => first | exact rfl | with_reducible assumption); (case hp => first | exact trivial | with_reducible assumption | assumption); (case hd => ktr_room); (case hu => ktr_units)); (rintro _ _ _ _ ⟨r, t1, t2, hv, hr0, hr1, hn⟩ _ _); subst hv; subst hn; (try dsimp only); (try k_fold)))
local macro_rules | `(tactic| walk_at "call ref") => `(tactic| (k_here; k_dflt (refine' Con.use (hex0 ?h0 ?h1) ?B ?F ?X ?N ?T ?hk ?hp ?hd ?hu ?_; (case B => k_asm); (case F => k_asm); (case X => k_asm); (case N => k_asm); (case T => k_asm); (case h0 => first | omega | assumption); (case h1 => first | omega | assumption); (case hk => first | exact rfl | with_reducible assumption); (case hp => first | exact trivial | with_reducible assumption | assumption); (case hd => ktr_room); (case hu => ktr_units)); (rintro _ _ _ _ ⟨ds, t1, hv, hx, hn⟩ _ _); subst hv; subst hn; have hx6 := hx.2.1; (try dsimp only); (try k_fold)))
local macro_rules | `(tactic| walk_at "call ref") => `(tactic| (k_here; k_dflt (refine' Con.use (great0 ?h0) ?B ?F ?X ?N ?T ?hk ?hp ?hd ?hu ?_; (case B => k_asm); (case F => k_asm); (case X => k_asm); (case N => k_asm); (case T => k_asm); (case h0 => (simp only [List.length_append, List.length_take, List.length_cons, List.length_nil]; omega)); (case hk => first | exact rfl | with_reducible assumption); (case hp => first | exact trivial | with_reducible assumption | assumption); (case hd => ktr_room); (case hu => ktr_units)); (rintro _ _ _ _ ⟨t1, hv, hn⟩ _ _); subst hv; subst hn; (try dsimp only); (try k_fold)))
local macro_rules | `(tactic| walk_at "call ref") => `(tactic| (k_here; k_dflt (refine' Con.use (meant0 ?h0) ?B ?F ?X ?N ?T ?hk ?hp ?hd ?hu ?_; (case B => k_asm); (case F => k_asm); (case X => k_asm); (case N => k_asm); (case T => k_asm); (case h0 => first | omega | assumption); (case hk => first | exact rfl | with_reducible assumption); (case hp => first | exact trivial | with_reducible assumption | assumption); (case hd => ktr_room); (case hu => ktr_units)); (rintro _ _ _ _ ⟨t1, hv, hn⟩ _ _); subst hv; subst hn; (try dsimp only); (try k_fold)))
local macro_rules | `(tactic| walk_at "subscriptTail Name Call ref int") => `(tactic| (k_here; k_dflt (refine' tab_sign (l := 65) (tab := plainT) ?F ?X ?o ?ok ?one ?h0 ?h1 ?_; (case F => k_asm); (case X => k_asm); (case o => k_is); (case ok => decide +kernel); (case one => decide +kernel); (case h0 => assumption); (case h1 => assumption)); intro c t hc))
local macro_rules | `(tactic| walk_at "subscriptTail Name Call ref int") => `(tactic| (k_here; k_dflt (refine' tab_sign (l := 66) (tab := signT) ?F ?X ?o ?ok ?one ?h0 ?h1 ?_; (case F => k_asm); (case X => k_asm); (case o => k_is); (case ok => decide +kernel); (case one => decide +kernel); (case h0 => assumption); (case h1 => assumption)); intro c t hc))
local macro_rules | `(tactic| walk_at "subscriptTail Name Call ref int") => `(tactic| (k_here; k_dflt (refine' tab_text (l := 67) (tab := endT) ?F ?X ?o ?ok ?h0 ?h1 ?_; (case F => k_asm); (case X => k_asm); (case o => k_is); (case ok => decide +kernel); (case h0 => assumption); (case h1 => assumption)); intro x t hx))
local macro_rules | `(tactic| walk_at "subscriptTail Name Call ref int") => `(tactic| (k_here; k_dflt (refine' tab_num (l := 68) (tab := numT) (lo := 0) (hi := 16777216) ?F ?X ?o ?ok ?one ?h0 ?h1 ?_; (case F => k_asm); (case X => k_asm); (case o => k_is); (case ok => decide +kernel); (case one => decide +kernel); (case h0 => assumption); (case h1 => assumption)); intro x t hx0 hx1))
local macro_rules | `(tactic| walk_at "subscriptTail Name Constant ref int") => `(tactic| (with_unfolding_all refine item_0 (by assumption) (List.Mem.head _) ?_))
local macro_rules | `(tactic| walk_at "call builtin:len") => `(tactic| (with_unfolding_all refine len_T (told_at (by with_reducible assumption) (by with_reducible assumption) (by with_reducible assumption) (by with_reducible assumption)) (by with_reducible assumption) (by with_reducible assumption) ?_; intro _))
local macro_rules | `(tactic| walk_at "call builtin:len") => `(tactic| ((with_reducible show wpAny _ _ (call (Value.builtin "len") [Value.str _ _]) _ _ _); refine Mine.s_len rfl (by omega) ?_; intro _ _))
local macro_rules | `(tactic| walk_at "subscriptTail Name BinOp ref int") => `(tactic| (with_unfolding_all refine item_T (told_at (by with_reducible assumption) (by with_reducible assumption) (by with_reducible assumption) (by with_reducible assumption)) (by with_reducible assumption) (by with_reducible assumption) (by assumption) ?_; intro _ _))
local macro_rules | `(tactic| walk_at "binaryOp Mod int int") => `(tactic| (refine mod_rng (b := 16777216) (by decide) (by decide) ?_; intro y t hy0 hy1))
local macro_rules | `(tactic| walk_at "subscriptTail") => `(tactic| ((with_reducible show wpAny _ _ (subscriptTail (PySem.Expr.Constant _ _ _) _ (Value.str _ _) (Value.ref _)) _ _ _); (with_reducible rename Fr _ _ _ _ => F'); (with_reducible rename News _ _ _ _ => N'); refine s_slice_to (s := ⟨_, _, _, _, _⟩) F' N' lit_000000 (by assumption) (by decide) ?_; intro _ _ _ _ _))
local macro_rules | `(tactic| walk_at "binaryOp Add str str") => `(tactic| (refine s_add (by first | exact lit_bs | with_reducible rfl) (by with_reducible rfl) (by (simp only [List.length_append, List.length_take, List.length_cons, List.length_nil]; omega)) ?_; intro _ _))
set_option maxHeartbeats 4000000 in
theorem unit0 {w : World} {l at_ : Addr} {vs : List Value} {ns : List Int} {k : Int} {tk : Tok} {e en : Nat} {rest : List (Addr × Obj)}
    (hne : ∀ p ∈ rest, p.1 ≠ at_) (hi : IntsAre vs ns) (hlen : 0 < ns.length) (hlen2 : ns.length ≤ 63) (hk0 : 0 ≤ k) (hk1 : k < 900) :
    Con w 2 20 112 [.ref l, .ref at_] ((at_, W.listOf #[.int k tk] e) :: rest) (fun base => base.IsList l vs.toArray ∨ (l, W.listOf vs.toArray en) ∈ rest)
      (fun v news' => ∃ x o k' t' kk a b c, v = .ref x ∧ news' = (x, o) :: (at_, W.listOf #[.int k' t'] e) :: rest ∧ IsUn o kk a b c ∧ UnOk kk a b c ∧ (∀ p ∈ rest, p.1 < x) ∧ at_ < x ∧ k ≤ k' ∧ k' ≤ k + 6) := by
  unfold Con
  k_fill
  intro _ p loose mean mg mb dp un gd cn cs a ccd cl outer A₀ base h₀ L m s Q E B F X N T hk hl hd hu ret
  refine wpAny_call ?_
  k_dflt (refine' code_def' [(Str.ofString "told", .ref l), (Str.ofString "at", .ref at_)] ?k1 ?k2 ?k3 ?k4 ?k5 ?kA ?kF ?kK ?k6 ?k7 ?k8 ?k9 ?kB ?_ ?c2 ?c3 ?c4 ?c5; (case kA => exact rfl); (case kF => exact rfl); (case kK => assumption); (case k1 => k_asm); (case k2 => k_asm); (case k3 => k_asm); (case k4 => k_asm); (case k5 => k_asm); (case k6 => k_is); (case k7 => k_is); (case k8 => ktr_room); (case k9 => exact BindsTo.of_eq rfl); (case c5 => decide); (case kB => exact locs rfl); (case c2 => exact rfl); (case c3 => exact rfl); (case c4 => exact rfl); k_whole; intro g' L' h' tk' FG' F' N' B' X' T'; (replace F' : Fr g' L' h' (fm [(Str.ofString "at", .ref at_), (Str.ofString "told", .ref l)]) := F'); (try dsimp only); (try k_lift B'); (try k_fold))
  try dsimp only at hl
  k_steps
  all_goals (rename at_ < _ ∧ AllLt _ rest => hl1; have hlt := allLt_mem hl1.2)
  all_goals refine ret _ _ _ _ ?_ (by assumption) (by assumption)
  all_goals first
    | exact ⟨_, _, _, _, _, _, _, _, rfl, rfl, ⟨_, _, _, _, rfl⟩, UnOk.plain _ (by assumption), hlt, hl1.1, by omega, by omega⟩
    | exact ⟨_, _, _, _, _, _, _, _, rfl, rfl, ⟨_, _, _, _, rfl⟩, UnOk.esc _ (by assumption), hlt, hl1.1, by omega, by omega⟩
    | exact ⟨_, _, _, _, _, _, _, _, rfl, rfl, ⟨_, _, _, _, rfl⟩, UnOk.num _ _ _ (hexU_great (hexU_pad (by assumption) (by assumption) (by assumption))) (by assumption) (by omega) (by omega), hlt, hl1.1, by omega, by omega⟩
    | exact ⟨_, _, _, _, _, _, _, _, rfl, rfl, ⟨_, _, _, _, rfl⟩, UnOk.num _ _ _ (hexU_pad (by assumption) (by assumption) (by assumption)) (by assumption) (by omega) (by omega), hlt, hl1.1, by omega, by omega⟩
end
end Mine

end

theorem Mine.fresh_Base7 : True := by w_top off; trivial
section
open PySem PySem.W PySem.Spec PySem.Calls PyProof.Rows PySem.SeqAt
namespace Mine
set_option maxRecDepth 100000

def figL : List Nat := [48,49,50,51,52,53,54,55,56,57,97,98,99,100,101,102,65,66,67,68,69,70]
def isFig (x : List Nat) : Bool := (figL.map fun c => [c]).contains x
def TupS (h : Heap) (D : Addr) (a : List Nat) : Prop := ∃ ys : List Value, IsTup h D ys.toArray ∧ StrsAre ys (a.map fun c => S [c])
section
variable {prog : Program} {w : World} {A : Around} {E : Value → Shared → Prop} {s : Shared} {h₀ : Heap} {L D : Addr} {m : Str → Option Value} {news : List (Addr × Obj)} {x : Str} {t : Tok} {a b : List Nat} {Q : Value → Shared → Prop}
theorem t_tuple (hh : A.handled = none) (F : Fr h₀ L s.heap m) (N : News h₀ L s.heap news) (hx : x = S a) (hsz : a.length ≤ 16777216)
    (hQ : ∀ D h' tk, Fr h₀ L h' m → News h₀ L h' news → TupS h' D a → Q (.ref D) { s with heap := h', toks := tk }) :
    wpAny (model prog w) A (call (.type "tuple") [.str x t]) Q E s := by
  subst hx
  refine tuple_ofStr hh F N (fun D h' tk ys F' N' _ _ hT hc => hQ D h' tk F' N' ⟨ys, hT, ?_⟩) (by rw [S_len, sizeLine_eq]; exact hsz)
  have e : (signs (S a)).map PyData.str = a.map fun c => PyData.str (S [c]) := by
    simp [signs]
  rw [e] at hc
  exact hc.strsOf
def isTxt (b : List Nat) : Value → Bool
  | .str z _ => z == S b
  | _ => false
theorem any_signs {b : List Nat} : ∀ {ys : List Value} {a : List Nat}, StrsAre ys (a.map fun c => S [c]) → ys.any (isTxt b) = (a.map fun c => [c]).contains b
  | _, [], h => by cases h; rfl
  | _, c :: r, h => by
    cases h with
    | cons y t hr =>
      have ih := any_signs (b := b) hr
      rw [List.any_cons, ih, List.map_cons, List.contains_cons]
      have e : isTxt b (.str (S [c]) t) = (b == [c]) := by
        show (S [c] == S b) = _
        rw [Bool.eq_iff_iff, beq_iff_eq, beq_iff_eq, S_inj]
        exact eq_comm
      rw [e]
theorem eqAt_txt {b : List Nat} {t : Tok} {A : Around} {s : Shared} {ys : List Value} {a : List Nat} (h : StrsAre ys (a.map fun c => S [c])) : ∀ y ∈ ys, EqAt A s y (.str (S b) t) (isTxt b y) := by
  induction a generalizing ys with
  | nil => cases h; intro y hy; exact nomatch hy
  | cons c r ih =>
    cases h with
    | cons y t' hr =>
      intro z hz
      rcases List.mem_cons.mp hz with rfl | hz
      · exact EqAt.str_str _ _ _ _
      · exact ih hr z hz
theorem t_in (hT : TupS s.heap D figL) (hx : x = S b) (h : Q (.bool (isFig b)) s) : wpAny (model prog w) A (compareOp .In (.str x t) (.ref D)) Q E s := by
  subst hx
  obtain ⟨ys, ⟨o, ho, hc, n, hd⟩, hs⟩ := hT
  refine in_tupleAt (isTxt b) ⟨o, ho, hc, n, hd⟩ (fun y hy => eqAt_txt hs y (by simpa using hy)) ?_
  have e : ys.toArray.any (isTxt b) = isFig b := by
    rw [List.any_toArray]
    exact any_signs hs
  rw [e]
  exact h
end
section
variable {prog : Program} {w : World} {A : Around} {E : Value → Shared → Prop} {s : Shared} {h₀ : Heap} {L D : Addr} {m : Str → Option Value} {news news' : List (Addr × Obj)} {Q : Value → Shared → Prop}
theorem l_append {ys : List Value} {n : Nat} {x : Value} (F : Fr h₀ L s.heap m) (N : News h₀ L s.heap news) (U : Upd D (W.listOf ys.toArray n) (W.listOf (ys ++ [x]).toArray (n + 1)) news news') (hsz : ys.length ≤ 16777216)
    (h : ∀ h', Fr h₀ L h' m → News h₀ L h' news' → Q .none { s with heap := h' }) : wpAny (model prog w) A (call (.builtin "list.append") [.ref D, x]) Q E s := by
  rw [← List.push_toArray] at U
  exact append_K F N U h (by rw [List.size_toArray, sizeLine_eq]; exact hsz)
end
theorem strs_snocS {ys : List Value} {ts : List (List Nat)} {c : List Nat} {t : Tok} (h : StrsAre ys (ts.map S)) : StrsAre (ys ++ [.str (S c) t]) ((ts ++ [c]).map S) := by
  rw [List.map_append]
  exact kct_snoc h
theorem notIn_two {b : List Nat} (h : ([Str.ofString "", Str.ofString "\n"].any fun (x : Str) => x == S b) = false) : b ≠ [] ∧ b ≠ [10] := by
  simp only [List.any_cons, List.any_nil, Bool.or_false, Bool.or_eq_false_iff] at h
  refine ⟨fun e => ?_, fun e => ?_⟩
  · rw [e, lit_empty] at h
    exact absurd h.1 (by decide)
  · rw [e, lit_nl] at h
    exact absurd h.2 (by decide)
theorem in_two {b : List Nat} (h : ([Str.ofString "", Str.ofString "\n"].any fun (x : Str) => x == S b) = true) : ¬ (b ≠ [] ∧ b ≠ [10]) := by
  rintro ⟨h1, h2⟩
  simp only [List.any_cons, List.any_nil, Bool.or_false, Bool.or_eq_true] at h
  rcases h with h | h
  · rw [lit_empty, beq_iff_eq, S_inj] at h
    exact h1 h.symm
  · rw [lit_nl, beq_iff_eq, S_inj] at h
    exact h2 h.symm
end Mine

end

theorem Mine.fresh_Pure1 : True := by w_top off; trivial
section
open PySem PySem.W PySem.Spec PySem.Calls PyProof.Rows
namespace Mine
set_option maxRecDepth 100000

/-- what a unit writes, what the first step makes of it, what it means; none: the text is not asked -/
def pieceOf (bf u af : U) : Option (List Nat × List Nat × List Nat) :=
  if u.k = 1 then
    if u.b = [] ∧ u.a.length < 6 ∧ af.k = 0 ∧ isFig (af.a.take 1) = true then some (92 :: (u.a ++ [32]), u.c, u.c) else some (92 :: (u.a ++ u.b), u.c, u.c)
  else if bf.k = 2 ∧ bf.c = [92] ∧ u.k = 0 ∧ isFig u.a = true then none
  else some (u.a, u.b, u.c)
def uAt (us : List U) (i : Nat) : U := us.getD i noU
def befOf (us : List U) (i : Nat) : U := if i = 0 then noU else uAt us (i - 1)
/-- the pieces of the first k units -/
def Pieces (us : List U) (k : Nat) (w f l : List Nat) : Prop :=
  ∃ ps : List (List Nat × List Nat × List Nat), ps.length = k ∧ (∀ j, j < k → pieceOf (befOf us j) (uAt us j) (uAt us (j + 1)) = some (ps.getD j ([], [], []))) ∧
    w = (ps.map (·.1)).flatten ∧ f = (ps.map (·.2.1)).flatten ∧ l = (ps.map (·.2.2)).flatten
theorem Pieces.zero (us : List U) : Pieces us 0 [] [] [] := ⟨[], rfl, (fun j h => absurd h (Nat.not_lt_zero _)), rfl, rfl, rfl⟩
theorem Pieces.succ {us : List U} {k : Nat} {w f l w' f' l' : List Nat} (h : Pieces us k w f l) (hp : pieceOf (befOf us k) (uAt us k) (uAt us (k + 1)) = some (w', f', l')) :
    Pieces us (k + 1) (w ++ w') (f ++ f') (l ++ l') := by
  obtain ⟨ps, h1, h2, rfl, rfl, rfl⟩ := h
  refine ⟨ps ++ [(w', f', l')], by simp [h1], ?_, by simp, by simp, by simp⟩
  intro j hj
  by_cases e : j < k
  · rw [h2 j e]
    simp [List.getElem?_append_left (show j < ps.length by omega)]
  · have : j = k := by omega
    subst this
    rw [hp]
    simp [← h1]
end Mine
namespace Mine
theorem Pieces.succ' {us : List U} {k : Nat} {w f l w' f' l' W F L : List Nat} (h : Pieces us k w f l) (hp : pieceOf (befOf us k) (uAt us k) (uAt us (k + 1)) = some (w', f', l')) (e1 : W = w ++ w') (e2 : F = f ++ f') (e3 : L = l ++ l') :
    Pieces us (k + 1) W F L := by
  subst e1 e2 e3
  exact h.succ hp
section
variable {us : List U} {i : Nat} {u bf af : U}
theorem u_at (h : us[(i : Int).toNat]? = some u) : uAt us i = u := by
  have e : (i : Int).toNat = i := by omega
  rw [e] at h
  simp [uAt, h]
theorem u_next (h : us[((i : Int) + 1).toNat]? = some u) : uAt us (i + 1) = u := by
  have e : ((i : Int) + 1).toNat = i + 1 := by omega
  rw [e] at h
  simp [uAt, h]
theorem u_none (h : ¬ ((i : Int) + 1 < (us.length : Int))) : uAt us (i + 1) = noU := by
  have e : us[i + 1]? = none := List.getElem?_eq_none (by omega)
  simp [uAt, e]
theorem u_prev (h : us[((i : Int) - 1).toNat]? = some u) (h0 : 0 < (i : Int)) : befOf us i = u := by
  have e : ((i : Int) - 1).toNat = i - 1 := by omega
  rw [e] at h
  have e2 : i ≠ 0 := by omega
  simp [befOf, e2, uAt, h]
theorem u_first (h0 : ¬ 0 < (i : Int)) : befOf us i = noU := by
  have e2 : i = 0 := by omega
  simp [befOf, e2]
theorem na (h : (u.b == []) = false) : ¬ (u.b = [] ∧ u.a.length < 6 ∧ af.k = 0 ∧ isFig (af.a.take 1) = true) := fun x => by rw [x.1] at h; exact absurd h (by decide)
theorem nb (h : ¬ ((u.a.length : Int) < 6)) : ¬ (u.b = [] ∧ u.a.length < 6 ∧ af.k = 0 ∧ isFig (af.a.take 1) = true) := fun x => by have := x.2.1; omega
theorem nc (h : af.k ≠ 0) : ¬ (u.b = [] ∧ u.a.length < 6 ∧ af.k = 0 ∧ isFig (af.a.take 1) = true) := fun x => h x.2.2.1
theorem nd (h : isFig (af.a.take (Int.toNat 1)) = false) : ¬ (u.b = [] ∧ u.a.length < 6 ∧ af.k = 0 ∧ isFig (af.a.take 1) = true) := fun x => by
  have h' : isFig (af.a.take 1) = false := h
  rw [x.2.2.2] at h'; cases h'
theorem oa (h : bf.k ≠ 2) : ¬ (bf.k = 2 ∧ bf.c = [92] ∧ u.k = 0 ∧ isFig u.a = true) := fun x => h x.1
theorem ob (h : (bf.c == [92]) = false) : ¬ (bf.k = 2 ∧ bf.c = [92] ∧ u.k = 0 ∧ isFig u.a = true) := fun x => by rw [x.2.1] at h; exact absurd h (by decide)
theorem oc (h : u.k ≠ 0) : ¬ (bf.k = 2 ∧ bf.c = [92] ∧ u.k = 0 ∧ isFig u.a = true) := fun x => h x.2.2.1
theorem od (h : isFig u.a = false) : ¬ (bf.k = 2 ∧ bf.c = [92] ∧ u.k = 0 ∧ isFig u.a = true) := fun x => by rw [x.2.2.2] at h; cases h
theorem piece_num (hu : us[(i : Int).toNat]? = some u) (haf : uAt us (i + 1) = af) (hk : u.k = 1) (h : ¬ (u.b = [] ∧ u.a.length < 6 ∧ af.k = 0 ∧ isFig (af.a.take 1) = true)) :
    pieceOf (befOf us i) (uAt us i) (uAt us (i + 1)) = some (92 :: (u.a ++ u.b), u.c, u.c) := by
  rw [u_at hu, haf]
  unfold pieceOf
  rw [if_pos hk, if_neg h]
theorem piece_sp (hu : us[(i : Int).toNat]? = some u) (haf : uAt us (i + 1) = af) (hk : u.k = 1) (h1 : (u.b == []) = true) (h2 : (u.a.length : Int) < 6) (h3 : af.k = 0) (h4 : isFig (af.a.take (Int.toNat 1)) = true) :
    pieceOf (befOf us i) (uAt us i) (uAt us (i + 1)) = some (92 :: (u.a ++ [32]), u.c, u.c) := by
  rw [u_at hu, haf]
  unfold pieceOf
  rw [if_pos hk, if_pos ⟨beq_iff_eq.mp h1, by omega, h3, h4⟩]
theorem piece_other (hu : us[(i : Int).toNat]? = some u) (hbf : befOf us i = bf) (hk : u.k ≠ 1) (h : ¬ (bf.k = 2 ∧ bf.c = [92] ∧ u.k = 0 ∧ isFig u.a = true)) :
    pieceOf (befOf us i) (uAt us i) (uAt us (i + 1)) = some (u.a, u.b, u.c) := by
  rw [u_at hu, hbf]
  unfold pieceOf
  rw [if_neg hk, if_neg h]
end
end Mine

end

theorem Mine.fresh_D6 : True := by w_top off; trivial
section
open PySem PySem.W PySem.Spec PySem.Calls PyProof.Rows
namespace Mine
set_option maxRecDepth 100000

section
local macro_rules | `(tactic| walk_at "no such key: one more line, so that the count differs from the text ahead") => `(tactic| skip)
local macro_rules | `(tactic| k_mem) => `(tactic| first | assumption | exact List.mem_append_left _ (by assumption) | exact List.mem_append_right _ (by assumption))
local macro_rules | `(tactic| walk_at "pyIter ref") => `(tactic| (refine Stop.at ?_))
local macro_rules | `(tactic| walk_at "call builtin:len") => `(tactic| ((with_reducible show wpAny _ _ (call (Value.builtin "len") [Value.ref _]) _ _ _); (with_reducible rename UsAt _ _ _ => hU'); (with_reducible rename News _ _ _ _ => N'); refine us_len hU' N' (fun p hp => by k_mem) (by with_reducible assumption) ?_; intro _))
local macro_rules | `(tactic| walk_at "subscriptTail Name Name ref int") => `(tactic| ((with_reducible rename UsAt _ _ _ => hU'); (with_reducible rename News _ _ _ _ => N'); refine us_item hU' N' (fun p hp => by k_mem) (by with_reducible assumption) (by with_reducible assumption) (by omega) (by omega) ?_; intro a o u hu hao hou hua hub huc))
local macro_rules | `(tactic| walk_at "subscriptTail Name BinOp ref int") => `(tactic| ((with_reducible rename UsAt _ _ _ => hU'); (with_reducible rename News _ _ _ _ => N'); refine us_item hU' N' (fun p hp => by k_mem) (by with_reducible assumption) (by with_reducible assumption) (by omega) (by omega) ?_; intro a o u hu hao hou hua hub huc))
local macro_rules | `(tactic| walk_at "subscriptTail Name Constant ref int") => `(tactic| ((with_reducible_and_instances show wpAny _ _ (subscriptTail _ _ _ (Value.int 0 _)) _ _ _); (with_reducible rename News _ _ _ _ => N'); refine' un_0 N' ?hm ?ho ?_; (case hm => k_mem); (case ho => first | with_reducible assumption | exact noU_is); intro _))
local macro_rules | `(tactic| walk_at "subscriptTail Name Constant ref int") => `(tactic| ((with_reducible_and_instances show wpAny _ _ (subscriptTail _ _ _ (Value.int 1 _)) _ _ _); (with_reducible rename News _ _ _ _ => N'); refine' un_1 N' ?hm ?ho ?_; (case hm => k_mem); (case ho => first | with_reducible assumption | exact noU_is); intro _))
local macro_rules | `(tactic| walk_at "subscriptTail Name Constant ref int") => `(tactic| ((with_reducible_and_instances show wpAny _ _ (subscriptTail _ _ _ (Value.int 2 _)) _ _ _); (with_reducible rename News _ _ _ _ => N'); refine' un_2 N' ?hm ?ho ?_; (case hm => k_mem); (case ho => first | with_reducible assumption | exact noU_is); intro _))
local macro_rules | `(tactic| walk_at "subscriptTail Name Constant ref int") => `(tactic| ((with_reducible_and_instances show wpAny _ _ (subscriptTail _ _ _ (Value.int 3 _)) _ _ _); (with_reducible rename News _ _ _ _ => N'); refine' un_3 N' ?hm ?ho ?_; (case hm => k_mem); (case ho => first | with_reducible assumption | exact noU_is); intro _))
local macro_rules | `(tactic| walk_at "call builtin:len") => `(tactic| ((with_reducible show wpAny _ _ (call (Value.builtin "len") [Value.str _ _]) _ _ _); refine Mine.s_len rfl (by omega) ?_; intro _ _))
local macro_rules | `(tactic| walk_at "compareOp Eq str str") => `(tactic| (refine Mine.s_eq (by with_reducible rfl) (by first | exact lit_empty | exact lit_bs) ?_))
local macro_rules | `(tactic| walk_at "subscriptTail") => `(tactic| ((with_reducible show wpAny _ _ (subscriptTail _ _ (Value.str _ _) (Value.ref _)) _ _ _); (with_reducible rename Fr _ _ _ _ => F'); (with_reducible rename News _ _ _ _ => N'); refine s_slice_to (s := ⟨_, _, _, _, _⟩) F' N' (by with_reducible rfl) (by decide) (by first | omega | decide) ?_; intro _ _ _ _ _))
local macro_rules | `(tactic| walk_at "binaryOp Add str str") => `(tactic| (refine s_add (by first | exact lit_bs | exact lit_fig | with_reducible rfl) (by first | exact lit_bs | exact lit_sp | exact lit_AF | with_reducible rfl) (by ((try simp only [List.length_append, List.length_take, List.length_cons, List.length_nil]); omega)) ?_; intro _ _))
local macro_rules | `(tactic| walk_at "call type:tuple") => `(tactic| ((with_reducible show wpAny _ _ (call (Value.type _) [Value.str _ _]) _ _ _); (with_reducible rename Fr _ _ _ _ => F'); (with_reducible rename News _ _ _ _ => N'); with_unfolding_all refine t_tuple (a := figL) rfl F' N' (by with_unfolding_all rfl) (by decide) ?_; intro D h' tk F'' N'' hT))
local macro_rules | `(tactic| walk_at "compareOp In str ref") => `(tactic| ((with_reducible rename TupS _ _ _ => hT); refine t_in hT (by with_reducible rfl) ?_))
local macro_rules | `(tactic| walk_at "InvPostN") => `(tactic| ((with_reducible show InvPostN _ _ _ _ _ _ _ Flow.next _); refine Stop.at ?_))
set_option maxHeartbeats 4000000 in
theorem text0 {w : World} {lu : Addr} {us : List U} {news : List (Addr × Obj)} (hU : UsAt news lu us) (h0 : us.length ≤ 8) (hB : ∀ u ∈ us, UB u) :
    Con w 2 20 119 [.ref lu] news (fun _ => True)
      (fun v news' => (v = .none ∧ news' = news) ∨ ∃ x t0 t1 t2 wr fi la, v = .ref x ∧ news' = (x, ({ cls := .type "tuple", data := .seq [.str (S wr) t0, .str (S fi) t1, .str (S la) t2].toArray } : Obj)) :: news ∧ (∀ p ∈ news, p.1 < x) ∧ Pieces us us.length wr fi la) := by
  unfold Con
  k_fill
  intro _ p loose mean mg mb dp un gd cn cs a ccd cl outer A₀ base h₀ L m s Q E B F X N T hk hl hd hu ret
  refine wpAny_call ?_
  k_dflt (refine' code_def' [(Str.ofString "units", .ref lu)] ?k1 ?k2 ?k3 ?k4 ?k5 ?kA ?kF ?kK ?k6 ?k7 ?k8 ?k9 ?kB ?_ ?c2 ?c3 ?c4 ?c5; (case kA => exact rfl); (case kF => exact rfl); (case kK => assumption); (case k1 => k_asm); (case k2 => k_asm); (case k3 => k_asm); (case k4 => k_asm); (case k5 => k_asm); (case k6 => k_is); (case k7 => k_is); (case k8 => ktr_room); (case k9 => exact BindsTo.of_eq rfl); (case c5 => decide); (case kB => exact locs rfl); (case c2 => exact rfl); (case c3 => exact rfl); (case c4 => exact rfl); k_whole; intro g' L' h' tk' FG' F' N' B' X' T'; (replace F' : Fr g' L' h' (fm [(Str.ofString "units", .ref lu)]) := F'); (try dsimp only); (try k_lift B'); (try k_fold))
  k_steps
  refine Stop.go ?_
  rename Fr _ _ _ _ => F1
  rename News _ _ _ _ => N1
  rename IsRange _ _ _ _ _ _ _ _ => hr
  have F2 := Fr_fmO F1 [("written", .str (S []) _), ("first", .str (S []) _), ("last", .str (S []) _), ("units", .ref lu)] ⟨congrArg (fun x => some (Value.str x _)) lit_empty, congrArg (fun x => some (Value.str x _)) lit_empty, congrArg (fun x => some (Value.str x _)) lit_empty, rfl, trivial⟩
  have N2 := News.perm N1 (news' := news) (fun p hp => .tail _ hp)
  refine for_range (fun i m' nx => nx = news ∧ ∃ wr fi la t1 t2 t3 rest, m' = fmO [("written", .str (S wr) t1), ("first", .str (S fi) t2), ("last", .str (S la) t3), ("units", .ref lu)] rest ∧ wr.length ≤ 20 * i ∧ fi.length ≤ 20 * i ∧ la.length ≤ 20 * i ∧ Pieces us i wr fi la) rfl hr (by omega) F2 N2 ⟨rfl, [], [], [], _, _, _, _, rfl, by simp, by simp, by simp, Pieces.zero us⟩ ?_ ?_
  · rintro i m₁ nx h tk own t hi hoff ⟨rfl, wr, fi, la, t1, t2, t3, rest, rfl, hwr, hfi, hla, hP⟩ F3 N3
    clear F1 F2 N1 N2 hr
    k_steps
    all_goals first
      | (refine Stop.go ?_
         rename Fr _ _ _ _ => F9
         rename News _ _ _ _ => N9
         refine InvEndN.intro (Fr_fmO F9 [("written", .str (S _) _), ("first", .str (S _) _), ("last", .str (S _) _), ("units", .ref lu)] ⟨rfl, rfl, rfl, rfl, trivial⟩) N9 ?hJ rfl ?m1 ?m2
         case m1 => exact fun p hp => by k_mem
         case m2 => exact fun p hp => by k_mem
         case hJ =>
           first
             | exact absurd (by assumption : isFig (List.take (Int.toNat 1) noU.a) = true) (by decide)
             | (refine' ⟨rfl, _, _, _, _, _, _, _, rfl, ?l1, ?l2, ?l3, Pieces.succ' hP ?hp ?e1 ?e2 ?e3⟩
                case hp =>
                  first
                    | exact piece_sp (by assumption) (u_next (by assumption)) (by assumption) (by assumption) (by assumption) (by assumption) (by assumption)
                    | exact piece_num (by assumption) rfl (by assumption) (na (by assumption))
                    | exact piece_num (by assumption) rfl (by assumption) (nb (by assumption))
                    | exact piece_num (by assumption) (u_next (by assumption)) (by assumption) (nc (by assumption))
                    | exact piece_num (by assumption) (u_next (by assumption)) (by assumption) (nd (by assumption))
                    | exact piece_num (by assumption) (u_none (by assumption)) (by assumption) (nd (by assumption))
                    | exact piece_num (by assumption) (u_none (by assumption)) (by assumption) (nd (by decide))
                    | exact piece_other (by assumption) (u_prev (by assumption) (by assumption)) (by assumption) (oa (by assumption))
                    | exact piece_other (by assumption) (u_prev (by assumption) (by assumption)) (by assumption) (ob (by assumption))
                    | exact piece_other (by assumption) (u_prev (by assumption) (by assumption)) (by assumption) (oc (by assumption))
                    | exact piece_other (by assumption) (u_prev (by assumption) (by assumption)) (by assumption) (od (by assumption))
                    | exact piece_other (by assumption) (u_first (by assumption)) (by assumption) (oa (by decide))
                case e1 => first | rfl | simp
                case e2 => rfl
                case e3 => rfl
                case l1 => (try simp only [List.length_append, List.length_cons, List.length_nil]); omega
                case l2 => (try simp only [List.length_append, List.length_cons, List.length_nil]); omega
                case l3 => (try simp only [List.length_append, List.length_cons, List.length_nil]); omega))
      | (rename News h₀ L _ _ => N9
         exact ret _ _ _ nx (.inl ⟨rfl, rfl⟩) (by assumption) (News.perm N9 fun p hp => by k_mem))
  · rintro m₁ nx h tk ⟨rfl, wr, fi, la, t1, t2, t3, rest, rfl, hwr, hfi, hla, hP⟩ F3 N3
    clear F1 F2 N1 N2 hr
    k_steps
    refine ret _ _ _ _ ?_ (by assumption) (by assumption)
    exact .inr ⟨_, _, _, _, _, _, _, rfl, rfl, by assumption, hP⟩
end
end Mine

end

theorem Mine.fresh_Pure2 : True := by w_top off; trivial
section
open PySem PySem.W PySem.Spec PySem.Calls PyProof.Rows
namespace Mine
set_option maxRecDepth 100000

/-- what the second step makes of a text -/
def subS : List Nat → List Nat
  | [] => []
  | [c] => [c]
  | c :: d :: r => if c = 92 ∧ d ≠ 10 then d :: subS r else c :: subS (d :: r)
theorem subS_skip {c d : Nat} {r : List Nat} (h : c = 92) (h2 : d ≠ 10) : subS (c :: d :: r) = d :: subS r := by
  rw [subS, if_pos ⟨h, h2⟩]
theorem subS_keep {c : Nat} {r : List Nat} (h : ¬ (c = 92 ∧ (r.take 1 ≠ [] ∧ r.take 1 ≠ [10]))) : subS (c :: r) = c :: subS r := by
  cases r with
  | nil => rfl
  | cons d r =>
    rw [subS, if_neg ?_]
    intro x
    exact h ⟨x.1, by simp, by simpa using x.2⟩
/-- how far the second step has come -/
def SubSAt (a : List Nat) (i : Nat) (ts : List (List Nat)) : Prop := i ≤ a.length ∧ ts.flatten ++ subS (a.drop i) = subS a ∧ ts.flatten.length ≤ i
theorem SubSAt.start (a : List Nat) : SubSAt a 0 [] := ⟨Nat.zero_le _, by simp, by simp⟩
theorem drop_cons {a : List Nat} {i : Nat} (h : i < a.length) : a.drop i = a.getD i 0 :: a.drop (i + 1) := by
  rw [List.drop_eq_getElem_cons h, List.getD_eq_getElem?_getD, List.getElem?_eq_getElem h]
  rfl
theorem SubSAt.keep {a : List Nat} {i : Nat} {ts : List (List Nat)} (h : SubSAt a i ts) (hi : i < a.length) (hk : ¬ (a.getD i 0 = 92 ∧ ((a.drop (i + 1)).take 1 ≠ [] ∧ (a.drop (i + 1)).take 1 ≠ [10]))) :
    SubSAt a (i + 1) (ts ++ [[a.getD i 0]]) := by
  obtain ⟨h1, h2, h3⟩ := h
  refine ⟨hi, ?_, by simp; simpa using h3⟩
  rw [← h2, drop_cons hi, subS_keep hk]
  simp
theorem SubSAt.skip {a : List Nat} {i : Nat} {ts : List (List Nat)} (h : SubSAt a i ts) (hi : i < a.length) (hc : a.getD i 0 = 92) (h1 : (a.drop (i + 1)).take 1 ≠ []) (h2 : (a.drop (i + 1)).take 1 ≠ [10]) :
    i + 1 < a.length ∧ SubSAt a (i + 2) (ts ++ [[a.getD (i + 1) 0]]) := by
  have hlt : i + 1 < a.length := by
    by_cases e : i + 1 < a.length
    · exact e
    · rw [List.drop_of_length_le (by omega)] at h1
      exact absurd rfl h1
  obtain ⟨g1, g2, g3⟩ := h
  refine ⟨hlt, by omega, ?_, by simp; simp at g3; omega⟩
  rw [drop_cons hlt] at h2
  have hd : a.getD (i + 1) 0 ≠ 10 := by simpa using h2
  rw [← g2, drop_cons hi, drop_cons hlt, subS_skip hc hd]
  simp
theorem SubSAt.done {a : List Nat} {i : Nat} {ts : List (List Nat)} (h : SubSAt a i ts) (hi : ¬ i < a.length) : ts.flatten = subS a := by
  obtain ⟨g1, g2, g3⟩ := h
  rw [List.drop_of_length_le (by omega)] at g2
  simpa [subS] using g2
theorem cut_eq {xs : List Nat} {i : Nat} : (xs.drop ((i : Int) + 1).toNat).take (((i : Int) + 2).toNat - ((i : Int) + 1).toNat) = (xs.drop (i + 1)).take 1 := by
  have e1 : ((i : Int) + 1).toNat = i + 1 := by omega
  have e2 : ((i : Int) + 2).toNat - ((i : Int) + 1).toNat = 1 := by omega
  rw [e2, e1]
theorem skip_lt {xs : List Nat} {i : Nat} (h : ([Str.ofString "", Str.ofString "\n"].any fun (x : Str) => x == S ((xs.drop ((i : Int) + 1).toNat).take (((i : Int) + 2).toNat - ((i : Int) + 1).toNat))) = false) : (i : Int) + 1 < xs.length := by
  rw [cut_eq] at h
  have h1 := (notIn_two h).1
  by_cases e : i + 1 < xs.length
  · omega
  · rw [List.drop_of_length_le (by omega)] at h1
    exact absurd rfl h1
theorem SubSAt.turn1 {xs : List Nat} {i : Nat} {ts : List (List Nat)} (h : SubSAt xs i ts) (hi : (i : Int) < xs.length) (hk : ([xs.getD (i : Int).toNat 0] == [92]) = false) : SubSAt xs (i + 1) (ts ++ [[xs.getD (i : Int).toNat 0]]) := by
  have e : (i : Int).toNat = i := by omega
  rw [e] at hk
  rw [e]
  exact h.keep (by omega) fun x => by rw [x.1] at hk; exact absurd hk (by decide)
theorem SubSAt.turn2 {xs : List Nat} {i : Nat} {ts : List (List Nat)} (h : SubSAt xs i ts) (hi : (i : Int) < xs.length) (hk : ([Str.ofString "", Str.ofString "\n"].any fun (x : Str) => x == S ((xs.drop ((i : Int) + 1).toNat).take (((i : Int) + 2).toNat - ((i : Int) + 1).toNat))) = true) : SubSAt xs (i + 1) (ts ++ [[xs.getD (i : Int).toNat 0]]) := by
  have e : (i : Int).toNat = i := by omega
  rw [cut_eq] at hk
  rw [e]
  exact h.keep (by omega) fun x => in_two hk x.2
theorem SubSAt.turn3 {xs : List Nat} {i : Nat} {ts : List (List Nat)} (h : SubSAt xs i ts) (hi : (i : Int) < xs.length) (hc : ([xs.getD (i : Int).toNat 0] == [92]) = true) (hk : ([Str.ofString "", Str.ofString "\n"].any fun (x : Str) => x == S ((xs.drop ((i : Int) + 1).toNat).take (((i : Int) + 2).toNat - ((i : Int) + 1).toNat))) = false) :
    i + 1 < xs.length ∧ SubSAt xs (i + 2) (ts ++ [[xs.getD ((i : Int) + 1).toNat 0]]) := by
  have e : (i : Int).toNat = i := by omega
  have e1 : ((i : Int) + 1).toNat = i + 1 := by omega
  rw [cut_eq] at hk
  rw [e] at hc
  rw [e1]
  have hn := notIn_two hk
  exact h.skip (by omega) (by simpa using hc) hn.1 hn.2
end Mine

end

theorem Mine.fresh_D7 : True := by w_top off; trivial
section
open PySem PySem.W PySem.Spec PySem.Calls PyProof.Rows
namespace Mine
set_option maxRecDepth 100000

section
local macro_rules | `(tactic| k_all) => `(tactic| with_reducible assumption)
local macro_rules | `(tactic| walk_at "exec While Compare cons nil") => `(tactic| (refine Stop.at ?_))
local macro_rules | `(tactic| walk_at "call builtin:len") => `(tactic| ((with_reducible show wpAny _ _ (call (Value.builtin "len") [Value.str _ _]) _ _ _); refine Mine.s_len (by with_reducible rfl) (by omega) ?_; intro _ _))
local macro_rules | `(tactic| walk_at "compareOp Eq str str") => `(tactic| (refine Mine.s_eq (by with_reducible rfl) (by first | exact lit_empty | exact lit_bs) ?_))
local macro_rules | `(tactic| walk_at "subscriptTail Name Slice str ref") => `(tactic| ((with_reducible show wpAny _ _ (subscriptTail _ _ (Value.str _ _) (Value.ref _)) _ _ _); (with_reducible rename Fr _ _ _ _ => F'); (with_reducible rename News _ _ _ _ => N'); refine s_slice (s := ⟨_, _, _, _, _⟩) F' N' (by with_reducible rfl) (by omega) (by omega) (by omega) ?_; intro _ _ _ _ _))
local macro_rules | `(tactic| walk_at "subscriptTail Name Name str int") => `(tactic| (refine Mine.s_item (by with_reducible rfl) (by omega) (by first | omega | exact skip_lt (by assumption)) (by omega) ?_))
local macro_rules | `(tactic| walk_at "call builtin:list.append") => `(tactic| (k_here; (with_reducible show wpAny _ _ (call (Value.builtin _) [Value.ref _, _]) _ _ _); k_dflt (refine' l_append ?k1 ?k2 ?k3 ?z ?_; (case k1 => k_asm); (case k2 => k_asm); (case k3 => k_upd); (case z => omega); k_whole); intro h' F' N'; (try k_sweep)))
local macro_rules | `(tactic| walk_at "call builtin:str.join") => `(tactic| (k_here; (with_reducible rename News _ _ _ _ => N'); refine s_join N' (.head _) (by assumption) lit_empty (by omega) ?_; intro _ _))
set_option maxHeartbeats 4000000 in
theorem subS0 {w : World} {xs : List Nat} {ta : Tok} {news : List (Addr × Obj)} (h0 : xs.length ≤ 100000) :
    Con w 2 20 57 [.str (S xs) ta] news (fun _ => True)
      (fun v news' => ∃ t, v = .str (S (subS xs)) t ∧ news' = news) := by
  unfold Con
  k_fill
  intro _ p loose mean mg mb dp un gd cn cs a ccd cl outer A₀ base h₀ L m s Q E B F X N T hk hl hd hu ret
  refine wpAny_call ?_
  k_dflt (refine' code_def' [(Str.ofString "value", .str (S xs) ta)] ?k1 ?k2 ?k3 ?k4 ?k5 ?kA ?kF ?kK ?k6 ?k7 ?k8 ?k9 ?kB ?_ ?c2 ?c3 ?c4 ?c5; (case kA => exact rfl); (case kF => exact rfl); (case kK => assumption); (case k1 => k_asm); (case k2 => k_asm); (case k3 => k_asm); (case k4 => k_asm); (case k5 => k_asm); (case k6 => k_is); (case k7 => k_is); (case k8 => ktr_room); (case k9 => exact BindsTo.of_eq rfl); (case c5 => decide); (case kB => exact locs rfl); (case c2 => exact rfl); (case c3 => exact rfl); (case c4 => exact rfl); k_whole; intro g' L' h' tk' FG' F' N' B' X' T'; (replace F' : Fr g' L' h' (fm [(Str.ofString "value", .str (S xs) ta)]) := F'); (try dsimp only); (try k_lift B'); (try k_fold))
  k_steps
  refine Stop.go ?_
  rename Fr _ _ _ _ => F1
  rename News _ _ _ _ => N1
  rename_i lr h4 hlr D h3 hD h2 h1 hh
  have hne : ∀ p ∈ news, p.1 ≠ lr := fun p hp => Nat.ne_of_lt (hlr p hp)
  have F2 := Fr_fmO F1 [("result", .ref lr), ("pos", .int 0 _), ("value", .str (S xs) ta)] ⟨rfl, rfl, rfl, trivial⟩
  have N2 := News.perm N1 (news' := (lr, W.listOf #[] 0) :: news) (fun p hp => .tail _ hp)
  refine While_inv (fun n m' nx => ∃ (i : Nat) (ti : Tok) (ys : List Value) (e : Nat) (ts : List (List Nat)) (rest : Str → Option Value), m' = fmO [("result", .ref lr), ("pos", .int (i : Int) ti), ("value", .str (S xs) ta)] rest ∧ nx = (lr, W.listOf ys.toArray e) :: news ∧ StrsAre ys (ts.map S) ∧ SubSAt xs i ts ∧ ys.length ≤ i ∧ n = xs.length - i) F2 N2 ⟨0, _, [], 0, [], _, rfl, rfl, .nil, SubSAt.start xs, Nat.le_refl _, rfl⟩ ?_
  rintro n m₁ nx h tk F3 N3 ⟨i, ti, ys, e, ts, rest, rfl, rfl, hys, hS, hyl, rfl⟩
  clear F1 F2 N1 N2 hD
  have hiL := hS.1
  have hfl := hS.2.2
  k_steps
  · rename Fr _ _ _ _ => F9
    rename News _ _ _ _ => N9
    refine WhileStep.intro (Fr_fmO F9 [("result", .ref lr), ("pos", .int ((i + 1 : Nat) : Int) _), ("value", .str (S xs) ta)] ⟨rfl, rfl, rfl, trivial⟩) (News.perm N9 (news' := (lr, _) :: news) fun p hp => .tail _ hp) (by omega) ⟨i + 1, _, _, _, _, _, rfl, rfl, strs_snocS hys, hS.turn2 (by assumption) (by assumption), by simp; omega, rfl⟩
  · rename Fr _ _ _ _ => F9
    rename News _ _ _ _ => N9
    have h3 := hS.turn3 (by assumption) (by assumption) (by assumption)
    refine WhileStep.intro (Fr_fmO F9 [("result", .ref lr), ("pos", .int ((i + 2 : Nat) : Int) _), ("value", .str (S xs) ta)] ⟨rfl, rfl, rfl, trivial⟩) (News.perm N9 (news' := (lr, _) :: news) fun p hp => .tail _ hp) (by omega) ⟨i + 2, _, _, _, _, _, rfl, rfl, strs_snocS hys, h3.2, by simp; omega, rfl⟩
  · rename Fr _ _ _ _ => F9
    rename News _ _ _ _ => N9
    refine WhileStep.intro (Fr_fmO F9 [("result", .ref lr), ("pos", .int ((i + 1 : Nat) : Int) _), ("value", .str (S xs) ta)] ⟨rfl, rfl, rfl, trivial⟩) N9 (by omega) ⟨i + 1, _, _, _, _, _, rfl, rfl, strs_snocS hys, hS.turn1 (by assumption) (by assumption), by simp; omega, rfl⟩
  · rename News h₀ L _ _ => N9
    have hd := hS.done (by omega)
    exact ret _ _ _ news ⟨_, congrArg (fun x => Value.str (S x) _) hd, rfl⟩ (by assumption) (News.perm N9 fun p hp => .tail _ hp)
end
end Mine

end

theorem Mine.fresh_Sre1 : True := by w_top off; trivial
section
open PySem PySem.Sre
namespace Mine
set_option maxRecDepth 100000

def patCode : Array Nat := #[14, 8, 1, 2, 9, 1, 1, 92, 0, 16, 92, 17, 0, 24, 13, 1, 6, 39, 8, 22, 48, 57, 22, 97, 102, 0, 1, 17, 1, 23, 27, 0, 1, 7, 7, 16, 13, 16, 10, 15, 17, 15, 13, 11, 9, 13824, 1, 0, 0, 0, 0, 0, 0, 0, 15, 2, 0, 18, 1]

abbrev MM (t : Array Nat) (p0 pc pos : Nat) (marks : Array (Option Nat)) (lm li : Int) (loops : Array Loop) (inner : Option Nat) (frames : List Sre.Frame) (weight : Nat) (ans : Option Bool) (outm : Bool) (handed : Nat) (sn : Seen) : M :=
  { code := patCode, text := t, lim := t.size, start := p0, pc := pc, pos := pos, handed := handed, outermost := outm, marks := marks, lastmark := lm, lastindex := li, loops := loops, inner := inner, frames := frames, weight := weight, answer := ans, seen := sn }

section
variable {t : Array Nat} {p0 pos : Nat} {marks : Array (Option Nat)} {lm li : Int} {loops : Array Loop} {inner : Option Nat} {frames : List Sre.Frame} {weight : Nat} {outm : Bool} {handed : Nat} {sn : Seen}

theorem lit9 (h : pos < t.size) (hc : t.getD pos 0 = 92) : (MM t p0 9 pos marks lm li loops inner frames weight none outm handed sn).step = MM t p0 11 (pos + 1) marks lm li loops inner frames weight none outm handed (sn.add 16) := by
  have h' : ¬ pos ≥ t.size := by omega
  simp [M.step, M.exec, M.word, patCode, ops, h', accepts, hc, itemWidth]
theorem lit9' (h : pos < t.size) (hc : t.getD pos 0 ≠ 92) : (MM t p0 9 pos marks lm li loops inner frames weight none outm handed sn).step = MM t p0 9 pos marks lm li loops inner frames weight (some false) outm handed (sn.add 16) := by
  have h' : ¬ pos ≥ t.size := by omega
  have hc' : (t[pos]?.getD 0 == 92) = false := by simpa using hc
  simp [M.step, M.exec, M.word, patCode, ops, h', accepts, hc', itemWidth, M.say]
theorem mark11 : (MM t p0 11 pos #[none, none] (-1) (-1) loops inner frames weight none outm handed sn).step = MM t p0 13 pos #[some pos, none] 0 (-1) loops inner frames weight none outm handed (sn.add 17) := by
  simp [M.step, M.exec, M.word, patCode, ops, M.mark]
  decide
theorem mark27 {q : Option Nat} : (MM t p0 27 pos #[q, none] 0 (-1) loops inner frames weight none outm handed sn).step = MM t p0 29 pos #[q, some pos] 1 1 loops inner frames weight none outm handed (sn.add 17) := by
  simp [M.step, M.exec, M.word, patCode, ops, M.mark]
  decide
abbrev fClose (pos : Nat) (outm : Bool) : Sre.Frame := { wait := .closeLoop, pc := 29, pos := pos, outermost := outm, loop := 0 }
theorem rep29 (hw : weight < 1000) : (MM t p0 29 pos marks lm li #[] none frames weight none outm handed sn).step = MM t p0 57 pos marks lm li #[{ pc := 29, outer := none }] (some 0) (fClose pos outm :: frames) (weight + 1) none outm pos (sn.add 23) := by
  have h1 : ¬ weight + 1 > 16777216 := by omega
  simp [M.step, M.exec, M.word, patCode, ops, M.attempt, M.frame, h1]
abbrev kMarks (marks : Array (Option Nat)) (lm li : Int) : Sre.Kept := { lastmark := lm, lastindex := li, whole := true, marks := marks }
abbrev fMore (pos : Nat) (outm : Bool) (k : Sre.Kept) : Sre.Frame := { wait := .maxMore, pc := 58, pos := pos, outermost := outm, loop := 0, count := 0, kept := k, began := none }
theorem until57 {q r : Option Nat} (hw : weight < 1000) : (MM t p0 57 pos #[q, r] 1 li #[{ pc := 29, outer := none }] (some 0) frames weight none outm handed sn).step =
    MM t p0 33 pos #[q, r] 1 li #[{ pc := 29, count := 0, began := some pos, outer := none }] (some 0) (fMore pos outm (kMarks #[q, r] 1 li) :: frames) (weight + 1 + 2) none outm pos (sn.add 18) := by
  have h1 : ¬ weight + 1 + 2 > 16777216 := by omega
  simp [M.step, M.exec, M.word, patCode, ops, M.until_, M.loopAt, M.round, M.setLoop, M.keep, M.attempt, M.frame, h1]
abbrev fNext (pc pos : Nat) (outm : Bool) (k : Sre.Kept) : Sre.Frame := { wait := .nextBranch, pc := pc, pos := pos, outermost := outm, kept := k }
theorem br33 {q r : Option Nat} (hw : weight < 1000) : (MM t p0 33 pos #[q, r] 1 li loops (some 0) frames weight none outm handed sn).step =
    MM t p0 35 pos #[q, r] 1 li loops (some 0) (fNext 34 pos outm (kMarks #[q, r] 1 li) :: frames) (weight + 1 + 2) none outm pos (sn.add 7) := by
  have h1 : ¬ weight + 1 + 2 > 16777216 := by omega
  simp [M.step, M.exec, M.word, patCode, ops, M.alternative, M.keep, M.attempt, M.frame, h1]
theorem lit35 (h : pos < t.size) (hc : t.getD pos 0 = 13) : (MM t p0 35 pos marks lm li loops inner frames weight none outm handed sn).step = MM t p0 37 (pos + 1) marks lm li loops inner frames weight none outm handed (sn.add 16) := by
  have h' : ¬ pos ≥ t.size := by omega
  simp [M.step, M.exec, M.word, patCode, ops, h', accepts, hc, itemWidth]
theorem lit35' (h : ¬ (pos < t.size ∧ t.getD pos 0 = 13)) : ∃ sn', (MM t p0 35 pos marks lm li loops inner frames weight none outm handed sn).step = MM t p0 35 pos marks lm li loops inner frames weight (some false) outm handed sn' := by
  by_cases h' : pos ≥ t.size
  · exact ⟨_, by simp [M.step, M.exec, M.word, patCode, ops, h', M.say]; rfl⟩
  · have hc' : (t[pos]?.getD 0 == 13) = false := by
      have : ¬ t.getD pos 0 = 13 := fun e => h ⟨by omega, e⟩
      simpa using this
    exact ⟨_, by simp [M.step, M.exec, M.word, patCode, ops, h', accepts, hc', M.say]; rfl⟩
theorem lit37 (h : pos < t.size) (hc : t.getD pos 0 = 10) : (MM t p0 37 pos marks lm li loops inner frames weight none outm handed sn).step = MM t p0 39 (pos + 1) marks lm li loops inner frames weight none outm handed (sn.add 16) := by
  have h' : ¬ pos ≥ t.size := by omega
  simp [M.step, M.exec, M.word, patCode, ops, h', accepts, hc, itemWidth]
theorem lit37' (h : ¬ (pos < t.size ∧ t.getD pos 0 = 10)) : ∃ sn', (MM t p0 37 pos marks lm li loops inner frames weight none outm handed sn).step = MM t p0 37 pos marks lm li loops inner frames weight (some false) outm handed sn' := by
  by_cases h' : pos ≥ t.size
  · exact ⟨_, by simp [M.step, M.exec, M.word, patCode, ops, h', M.say]; rfl⟩
  · have hc' : (t[pos]?.getD 0 == 10) = false := by
      have : ¬ t.getD pos 0 = 10 := fun e => h ⟨by omega, e⟩
      simpa using this
    exact ⟨_, by simp [M.step, M.exec, M.word, patCode, ops, h', accepts, hc', M.say]; rfl⟩
theorem jump39 : (MM t p0 39 pos marks lm li loops inner frames weight none outm handed sn).step = MM t p0 57 pos marks lm li loops inner frames weight none outm handed (sn.add 15) := by
  simp [M.step, M.exec, M.word, patCode, ops]
theorem jump54 : (MM t p0 54 pos marks lm li loops inner frames weight none outm handed sn).step = MM t p0 57 pos marks lm li loops inner frames weight none outm handed (sn.add 15) := by
  simp [M.step, M.exec, M.word, patCode, ops]
abbrev fTail (pos : Nat) (outm : Bool) (cnt : Int) : Sre.Frame := { wait := .maxTail, pc := 58, pos := pos, outermost := outm, loop := 0, count := cnt, kept := { lastmark := 1, lastindex := 1, whole := false, marks := #[] } }
theorem until57b {q r b : Option Nat} (hw : weight < 1000) : (MM t p0 57 pos #[q, r] 1 1 #[{ pc := 29, count := 0, began := b, outer := none }] (some 0) frames weight none outm handed sn).step =
    MM t p0 58 pos #[q, r] 1 1 #[{ pc := 29, count := 0, began := b, outer := none }] none (fTail pos outm 1 :: frames) (weight + 1) none outm pos (sn.add 18) := by
  have h1 : ¬ weight + 1 > 16777216 := by omega
  simp [M.step, M.exec, M.word, patCode, ops, M.until_, M.loopAt, M.afterLoop, M.keep, M.attempt, M.frame, maxRepeat, h1]
theorem succ58 : (MM t p0 58 pos marks lm li loops inner frames weight none outm handed sn).step = MM t p0 58 pos marks lm li loops inner frames weight (some true) outm pos (sn.add 1) := by
  simp [M.step, M.exec, M.word, patCode, ops, M.say]
end

def isWsC (c : Nat) : Bool := c == 9 || c == 10 || c == 12 || c == 13 || c == 32
theorem charset_ok : ∀ c, c < 256 → (patCode.getD (45 + c / 32) 0).testBit (c % 32) = isWsC c := by decide +kernel
theorem isWsC_big {c : Nat} (h : ¬ c < 256) : isWsC c = false := by
  unfold isWsC
  have h1 : (c == 9) = false := by simp; omega
  have h2 : (c == 10) = false := by simp; omega
  have h3 : (c == 12) = false := by simp; omega
  have h4 : (c == 13) = false := by simp; omega
  have h5 : (c == 32) = false := by simp; omega
  simp [h1, h2, h3, h4, h5]
theorem inSet53 (c : Nat) (sn : Seen) : inSet patCode c 58 53 true sn = .ok (false, sn.add 0) := by
  simp [inSet, patCode, ops]
theorem inSet44 (c : Nat) (sn : Seen) : ∃ sn', inSet patCode c 59 44 true sn = .ok (isWsC c, sn') := by
  have e : inSet patCode c 59 44 true sn = if c < 256 && (patCode.getD (44 + (1 + c / 32)) 0).testBit (c % 32) then .ok (true, sn.add 9) else inSet patCode c 58 (44 + 9) true (sn.add 9) := by
    rw [inSet]
    rfl
  rw [e, show 44 + (1 + c / 32) = 45 + c / 32 by omega]
  by_cases h : c < 256
  · rw [charset_ok c h]
    cases hw : isWsC c with
    | true => exact ⟨_, by simp [h]; rfl⟩
    | false => exact ⟨_, by simp only [h, decide_true, Bool.and_false, Bool.false_eq_true, if_false]; exact inSet53 c _⟩
  · rw [isWsC_big h]
    exact ⟨_, by simp only [h, decide_false, Bool.false_and, Bool.false_eq_true, if_false]; exact inSet53 c _⟩
def hexOk (c : Nat) : Bool := let l := lowerUni c; (48 ≤ l && l ≤ 57) || (97 ≤ l && l ≤ 102)
theorem inSet19 (c : Nat) (sn : Seen) : ∃ sn', inSet patCode c 59 19 true sn = .ok ((48 ≤ c && c ≤ 57) || (97 ≤ c && c ≤ 102), sn') := by
  have e : inSet patCode c 59 19 true sn = if 48 ≤ c && c ≤ 57 then .ok (true, sn.add 22) else if 97 ≤ c && c ≤ 102 then .ok (true, (sn.add 22).add 22) else .ok (false, ((sn.add 22).add 22).add 0) := by
    rw [inSet]
    rfl
  rw [e]
  cases h1 : (decide (48 ≤ c) && decide (c ≤ 57)) with
  | true => exact ⟨_, by simp; rfl⟩
  | false =>
    cases h2 : (decide (97 ≤ c) && decide (c ≤ 102)) with
    | true => exact ⟨_, by simp; rfl⟩
    | false => exact ⟨_, by simp; rfl⟩
theorem accepts17 (c : Nat) (sn : Seen) : ∃ sn', accepts patCode 17 c sn = .ok (hexOk c, sn') := inSet19 (lowerUni c) sn
theorem accepts42 (c : Nat) (sn : Seen) : ∃ sn', accepts patCode 42 c sn = .ok (isWsC c, sn') := inSet44 c sn
def cntHex (t : Array Nat) : (fuel p : Nat) → Nat
  | 0, _ => 0
  | f + 1, p => if hexOk (t.getD p 0) then cntHex t f (p + 1) + 1 else 0
theorem run_hex (t : Array Nat) : ∀ (fuel p found : Nat) (sn : Seen), ∃ sn', Sre.run patCode t 17 fuel p found sn = .ok (found + cntHex t fuel p, sn')
  | 0, p, found, sn => ⟨sn, rfl⟩
  | f + 1, p, found, sn => by
    obtain ⟨s1, h1⟩ := accepts17 (t.getD p 0) sn
    cases hx : hexOk (t.getD p 0) with
    | true =>
      obtain ⟨s2, h2⟩ := run_hex t f (p + 1) (found + 1) s1
      refine ⟨s2, ?_⟩
      rw [Sre.run, h1, hx]
      show Sre.run patCode t 17 f (p + 1) (found + 1) s1 = _
      rw [h2]
      simp only [cntHex, hx, if_true]
      congr 2
      omega
    | false =>
      refine ⟨s1, ?_⟩
      rw [Sre.run, h1, hx]
      simp only [cntHex, hx]
      rfl
end Mine

end

theorem Mine.fresh_Sre2 : True := by w_top off; trivial
section
open PySem PySem.Sre
namespace Mine
set_option maxRecDepth 100000
section
variable {t : Array Nat} {p0 pos : Nat} {marks : Array (Option Nat)} {lm li : Int} {loops : Array Loop} {inner : Option Nat} {frames : List Sre.Frame} {weight : Nat} {outm : Bool} {handed : Nat} {sn : Seen}
theorem in42 (h : pos < t.size) (hc : isWsC (t.getD pos 0) = true) : ∃ sn', (MM t p0 42 pos marks lm li loops inner frames weight none outm handed sn).step = MM t p0 54 (pos + 1) marks lm li loops inner frames weight none outm handed sn' := by
  have h' : ¬ pos ≥ t.size := by omega
  obtain ⟨s1, h1⟩ := accepts42 (t.getD pos 0) (sn.add 13)
  rw [hc] at h1
  refine ⟨s1, ?_⟩
  have hw : patCode.getD 42 0 = 13 := by decide
  have ho : ops[13]? = some Op.IN := rfl
  have hi : itemWidth patCode 42 = 12 := by decide
  have hz : 42 < patCode.size := by decide
  simp only [M.step, M.exec, M.word, Nat.add_zero, hw, ho, h', h1, hi, hz, if_true, if_false, Option.isSome_none, Bool.false_eq_true]
theorem in42' (h : ¬ (pos < t.size ∧ isWsC (t.getD pos 0) = true)) : ∃ sn', (MM t p0 42 pos marks lm li loops inner frames weight none outm handed sn).step = MM t p0 42 pos marks lm li loops inner frames weight (some false) outm handed sn' := by
  have hw : patCode.getD 42 0 = 13 := by decide
  have ho : ops[13]? = some Op.IN := rfl
  have hz : 42 < patCode.size := by decide
  by_cases h' : pos ≥ t.size
  · exact ⟨_, by simp only [M.step, M.exec, M.word, Nat.add_zero, hw, ho, h', hz, if_true, Option.isSome_none, Bool.false_eq_true, if_false, M.say]; rfl⟩
  · obtain ⟨s1, h1⟩ := accepts42 (t.getD pos 0) (sn.add 13)
    have hc : isWsC (t.getD pos 0) = false := by
      cases hx : isWsC (t.getD pos 0) with
      | false => rfl
      | true => exact absurd ⟨by omega, hx⟩ h
    rw [hc] at h1
    exact ⟨s1, by simp only [M.step, M.exec, M.word, Nat.add_zero, hw, ho, h', h1, hz, if_true, if_false, Option.isSome_none, Bool.false_eq_true, M.say]⟩
abbrev fGive (pos : Nat) (outm : Bool) (n : Nat) : Sre.Frame := { wait := .giveBack, pc := 13, pos := pos, outermost := outm, count := n, kept := { lastmark := 0, lastindex := -1, whole := false, marks := #[] } }
theorem rep13 {q : Option Nat} {n : Nat} (hp : pos ≤ t.size) (hn : cntHex t (min 6 (t.size - pos)) pos = n) (h1 : 1 ≤ n) (hw : weight < 1000) : ∃ sn', (MM t p0 13 pos #[q, none] 0 (-1) #[] none frames weight none outm handed sn).step =
    MM t p0 27 (pos + n) #[q, none] 0 (-1) #[] none (fGive (pos + n) outm n :: frames) (weight + 1) none outm (pos + n) sn' := by
  obtain ⟨s1, hr⟩ := run_hex t (min 6 (t.size - pos)) pos 0 ((sn.add 24).add 39)
  rw [hn, Nat.zero_add] at hr
  have hroom : 1 ≤ t.size - pos := by
    by_cases e : t.size - pos = 0
    · rw [e] at hn
      simp [cntHex] at hn
      omega
    · omega
  refine ⟨s1, ?_⟩
  have e0 : patCode.getD 13 0 = 24 := by decide
  have e1 : patCode.getD (13 + 1) 0 = 13 := by decide
  have e2 : patCode.getD (13 + 2) 0 = 1 := by decide
  have e3 : patCode.getD (13 + 3) 0 = 6 := by decide
  have e4 : patCode.getD (13 + 4) 0 = 39 := by decide
  have ho : ops[24]? = some Op.REPEAT_ONE := rfl
  have hz : 13 < patCode.size := by decide
  have hr1 : ¬ ((1 : Nat) : Int) > (t.size : Int) - (pos : Int) := by omega
  have hr2 : ((t.size : Int) - (pos : Int)).toNat = t.size - pos := by omega
  have hl : ¬ n < 1 := by omega
  have hwt : ¬ weight + 1 + 0 > 16777216 := by omega
  simp only [M.step, M.exec, M.word, Nat.add_zero, e0, e1, e2, e3, e4, ho, hz, hr1, hr2, hr, hl, if_true, if_false, Option.isSome_none, Bool.false_eq_true, M.afterRun, M.keep, M.attempt, M.frame, Array.size_empty, hwt]
theorem rep13' {q : Option Nat} (hp : pos ≤ t.size) (hn : cntHex t (min 6 (t.size - pos)) pos = 0) : ∃ sn', (MM t p0 13 pos #[q, none] 0 (-1) #[] none frames weight none outm handed sn).step =
    MM t p0 13 pos #[q, none] 0 (-1) #[] none frames weight (some false) outm handed sn' := by
  obtain ⟨s1, hr⟩ := run_hex t (min 6 (t.size - pos)) pos 0 ((sn.add 24).add 39)
  rw [hn, Nat.zero_add] at hr
  have e0 : patCode.getD 13 0 = 24 := by decide
  have e1 : patCode.getD (13 + 1) 0 = 13 := by decide
  have e2 : patCode.getD (13 + 2) 0 = 1 := by decide
  have e3 : patCode.getD (13 + 3) 0 = 6 := by decide
  have e4 : patCode.getD (13 + 4) 0 = 39 := by decide
  have ho : ops[24]? = some Op.REPEAT_ONE := rfl
  have hz : 13 < patCode.size := by decide
  by_cases hr1 : ((1 : Nat) : Int) > (t.size : Int) - (pos : Int)
  · exact ⟨_, by simp only [M.step, M.exec, M.word, Nat.add_zero, e0, e2, ho, hz, hr1, if_true, if_false, Option.isSome_none, Bool.false_eq_true, M.say]; rfl⟩
  · have hr2 : ((t.size : Int) - (pos : Int)).toNat = t.size - pos := by omega
    have hl : (0 : Nat) < 1 := by decide
    exact ⟨s1, by simp only [M.step, M.exec, M.word, Nat.add_zero, e0, e1, e2, e3, e4, ho, hz, hr1, hr2, hr, hl, if_true, if_false, Option.isSome_none, Bool.false_eq_true, M.say]⟩
theorem next34 {pc pos' : Nat} {q r : Option Nat} {o2 : Bool} (hw : weight < 1000) : (MM t p0 pc pos' #[q, r] 1 1 loops inner (fNext 34 pos outm (kMarks #[q, r] 1 1) :: frames) (weight + 1 + 2) (some false) o2 handed sn).step =
    MM t p0 42 pos #[q, r] 1 1 loops inner (fNext 41 pos outm (kMarks #[q, r] 1 1) :: frames) (weight + 1 + 2) none outm pos sn := by
  have h1 : ¬ weight + 1 + 2 > 16777216 := by omega
  have h2 : weight + 1 + 2 - (1 + 2) = weight := by omega
  simp [M.step, M.resume, M.putBack, M.alternative, patCode, M.attempt, M.frame, h1, h2]
theorem next41 {pc pos' : Nat} {q r : Option Nat} {o2 : Bool} : (MM t p0 pc pos' #[q, r] 1 1 loops inner (fNext 41 pos outm (kMarks #[q, r] 1 1) :: frames) (weight + 1 + 2) (some false) o2 handed sn).step =
    MM t p0 41 pos #[q, r] 1 1 loops inner frames weight (some false) outm handed sn := by
  have h2 : weight + 1 + 2 - (1 + 2) = weight := by omega
  simp [M.step, M.resume, M.putBack, M.alternative, patCode, M.say, h2]
theorem more_false {pc pos' : Nat} {q r b : Option Nat} {c : Int} {o2 : Bool} (hw : weight < 1000) : (MM t p0 pc pos' #[q, r] 1 1 #[{ pc := 29, count := c, began := b, outer := none }] inner (fMore pos outm (kMarks #[q, r] 1 1) :: frames) (weight + 1 + 2) (some false) o2 handed sn).step =
    MM t p0 58 pos #[q, r] 1 1 #[{ pc := 29, count := -1, began := none, outer := none }] none (fTail pos outm 0 :: frames) (weight + 1) none outm pos sn := by
  have h1 : ¬ weight + 1 > 16777216 := by omega
  have h2 : weight + 1 + 2 - (1 + 2) = weight := by omega
  simp [M.step, M.resume, M.putBack, M.setLoop, M.afterLoop, M.loopAt, M.keep, M.attempt, M.frame, h1, h2]
theorem end_false {pc : Nat} : (MM t p0 pc pos marks lm li loops inner [] weight (some false) outm handed sn).step = { MM t p0 pc pos marks lm li loops inner [] weight (some false) outm handed sn with outcome := some .failed } := by
  simp [M.step]
end
def okWait : Wait → Bool
  | .maxTail | .nextBranch | .maxMore | .closeLoop | .giveBack => true
  | _ => false
theorem runFor_add (a b : Nat) (m : M) : M.runFor (a + b) m = M.runFor b (M.runFor a m) := by
  induction a generalizing m with
  | zero => rw [Nat.zero_add]; rfl
  | succ a ih =>
    rw [show a + 1 + b = (a + b) + 1 by omega]
    simp only [M.runFor]
    cases h : m.outcome.isSome with
    | true =>
      simp only [if_true]
      cases b with
      | zero => rfl
      | succ b => simp [M.runFor, h]
    | false =>
      simp only [Bool.false_eq_true, if_false]
      exact ih _
theorem runFor_one {m : M} (h : m.outcome = none) : M.runFor 1 m = m.step := by
  simp [M.runFor, h]
theorem yes_chain : ∀ (frames : List Sre.Frame) (m : M), m.frames = frames → m.answer = some true → m.outcome = none → (∀ f ∈ frames, okWait f.wait = true) →
    ∃ e, M.runFor (frames.length + 1) m = e ∧ e.outcome = some .matched ∧ e.marks = m.marks ∧ e.lastmark = m.lastmark ∧ e.lastindex = m.lastindex ∧ e.handed = m.handed ∧ e.start = m.start
  | [], m, hf, ha, ho, _ => by
    refine ⟨_, rfl, ?_⟩
    have e : M.runFor 1 m = { m with outcome := some .matched } := by
      rw [runFor_one ho]
      simp [M.step, ho, ha, hf]
    show (M.runFor 1 m).outcome = _ ∧ _
    rw [List.length_nil, Nat.zero_add, e]
    exact ⟨rfl, rfl, rfl, rfl, rfl, rfl⟩
  | f :: r, m, hf, ha, ho, hok => by
    have h1 := hok f (.head _)
    have key : ∃ m', m.step = m' ∧ m'.frames = r ∧ m'.answer = some true ∧ m'.outcome = none ∧ m'.marks = m.marks ∧ m'.lastmark = m.lastmark ∧ m'.lastindex = m.lastindex ∧ m'.handed = m.handed ∧ m'.start = m.start := by
      refine ⟨_, rfl, ?_⟩
      unfold okWait at h1
      cases hw : f.wait <;> rw [hw] at h1 <;> first | exact absurd h1 (by decide) | (simp [M.step, ho, ha, hf, M.resume, hw, M.say, M.setLoop])
    obtain ⟨m', e1, k1, k2, k3, k4, k5, k6, k7, k8⟩ := key
    obtain ⟨e, i1, i2, i3, i4, i5, i6, i7⟩ := yes_chain r m' k1 k2 k3 fun g hg => hok g (.tail _ hg)
    refine ⟨e, ?_, i2, i3.trans k4, i4.trans k5, i5.trans k6, i6.trans k7, i7.trans k8⟩
    rw [List.length_cons, show r.length + 1 + 1 = 1 + (r.length + 1) by omega, runFor_add, runFor_one ho, e1, i1]
end Mine

end

theorem Mine.fresh_Sre3 : True := by w_top off; trivial
section
open PySem PySem.Sre
namespace Mine
set_option maxRecDepth 100000

def wsLen (t : Array Nat) (q : Nat) : Nat :=
  if q < t.size ∧ t.getD q 0 = 13 ∧ q + 1 < t.size ∧ t.getD (q + 1) 0 = 10 then 2 else if q < t.size ∧ isWsC (t.getD q 0) = true then 1 else 0
def hexLen (t : Array Nat) (p : Nat) : Nat := cntHex t (min 6 (t.size - (p + 1))) (p + 1)
theorem start_ok {t : Array Nat} {p : Nat} (h : p + 2 ≤ t.size) : forMatch patCode t 1 p t.size false false = MM t p 9 p #[none, none] (-1) (-1) #[] none [] 0 none true p (({} : Seen).add 14) := by
  have h2 : ¬ (t.size - p < 2) := by omega
  have e : forMatch patCode t 1 p t.size false false = if (2 != 0 && decide (p ≤ t.size) && decide (t.size - p < 2)) = true then (MM t p 9 p #[none, none] (-1) (-1) #[] none [] 0 none true p (({} : Seen).add 14)).say false else MM t p 9 p #[none, none] (-1) (-1) #[] none [] 0 none true p (({} : Seen).add 14) := rfl
  rw [e, if_neg (by simp [h2])]
theorem start_short {t : Array Nat} {p : Nat} (hp : p ≤ t.size) (h : ¬ p + 2 ≤ t.size) : forMatch patCode t 1 p t.size false false = (MM t p 9 p #[none, none] (-1) (-1) #[] none [] 0 (some false) true p (({} : Seen).add 14)) := by
  have e : forMatch patCode t 1 p t.size false false = if (2 != 0 && decide (p ≤ t.size) && decide (t.size - p < 2)) = true then (MM t p 9 p #[none, none] (-1) (-1) #[] none [] 0 none true p (({} : Seen).add 14)).say false else MM t p 9 p #[none, none] (-1) (-1) #[] none [] 0 none true p (({} : Seen).add 14) := rfl
  have h2 : t.size - p < 2 := by omega
  rw [e, if_pos (by simp [h2, hp])]
  rfl
/-- a run of k steps from a to b -/
def Rn (k : Nat) (a b : M) : Prop := M.runFor k a = b
theorem Rn.trans {k l : Nat} {a b c : M} (h : Rn k a b) (g : Rn l b c) : Rn (k + l) a c := by
  unfold Rn at *
  rw [runFor_add, h, g]
theorem Rn.step {a b : M} (h : a.step = b) (ho : a.outcome = none := by rfl) : Rn 1 a b := by
  unfold Rn
  rw [runFor_one ho, h]
theorem Rn.refl (a : M) : Rn 0 a a := rfl

theorem no_match {t : Array Nat} {p : Nat} (hp : p ≤ t.size) (h : ¬ (p + 2 ≤ t.size ∧ t.getD p 0 = 92 ∧ 1 ≤ hexLen t p)) : ∃ k e, k ≤ 100 ∧ Rn k (forMatch patCode t 1 p t.size false false) e ∧ e.outcome = some .failed := by
  by_cases h1 : p + 2 ≤ t.size
  · rw [start_ok h1]
    by_cases h2 : t.getD p 0 = 92
    · have h3 : hexLen t p = 0 := by
        cases hx : hexLen t p with
        | zero => rfl
        | succ n => exact absurd ⟨h1, h2, by omega⟩ h
      obtain ⟨s1, e1⟩ := rep13' (p0 := p) (frames := []) (weight := 0) (outm := true) (handed := p) (sn := ((({} : Seen).add 14).add 16).add 17) (q := some (p + 1)) (show p + 1 ≤ t.size by omega) h3
      exact ⟨_, _, by decide, (((Rn.step (lit9 (by omega) h2)).trans (Rn.step mark11)).trans (Rn.step e1)).trans (Rn.step end_false), rfl⟩
    · exact ⟨_, _, by decide, (Rn.step (lit9' (by omega) h2)).trans (Rn.step end_false), rfl⟩
  · rw [start_short hp h1]
    exact ⟨_, _, by decide, Rn.step end_false, rfl⟩

theorem ws_one {t : Array Nat} {pos : Nat} (hl : wsLen t pos ≤ 1) (hc : pos < t.size ∧ isWsC (t.getD pos 0) = true) : wsLen t pos = 1 := by
  unfold wsLen at hl ⊢
  by_cases x : pos < t.size ∧ t.getD pos 0 = 13 ∧ pos + 1 < t.size ∧ t.getD (pos + 1) 0 = 10
  · rw [if_pos x] at hl; omega
  · rw [if_neg x, if_pos hc]
theorem ws_zero {t : Array Nat} {pos : Nat} (hl : wsLen t pos ≤ 1) (hc : ¬ (pos < t.size ∧ isWsC (t.getD pos 0) = true)) : wsLen t pos = 0 := by
  unfold wsLen at hl ⊢
  by_cases x : pos < t.size ∧ t.getD pos 0 = 13 ∧ pos + 1 < t.size ∧ t.getD (pos + 1) 0 = 10
  · rw [if_pos x] at hl; omega
  · rw [if_neg x, if_neg hc]
theorem tail_part {t : Array Nat} {p0 pos : Nat} {q r : Option Nat} {frames : List Sre.Frame} {handed : Nat} {sn : Seen} {weight : Nat} (hw : weight < 900) :
    ∃ k e fr, k ≤ 30 ∧ Rn k (MM t p0 29 pos #[q, r] 1 1 #[] none frames weight none true handed sn) e ∧ e.answer = some true ∧ e.outcome = none ∧ e.frames = fr ++ frames ∧ fr.length ≤ 5 ∧ (∀ f ∈ fr, okWait f.wait = true) ∧ e.marks = #[q, r] ∧ e.lastmark = 1 ∧ e.lastindex = 1 ∧ e.handed = pos + wsLen t pos ∧ e.start = p0 := by
  have r1 := ((Rn.step (rep29 (t := t) (p0 := p0) (pos := pos) (marks := #[q, r]) (lm := 1) (li := 1) (frames := frames) (outm := true) (handed := handed) (sn := sn) (show weight < 1000 by omega))).trans
    (Rn.step (until57 (weight := weight + 1) (by omega)))).trans (Rn.step (br33 (weight := weight + 1 + 1 + 2) (by omega)))
  have fin : ∀ (pos' : Nat) (h' : Nat) (s' : Seen) (fs : List Sre.Frame) (w' : Nat) (b : Option Nat), w' < 1000 → ∃ e, Rn 2 (MM t p0 57 pos' #[q, r] 1 1 #[{ pc := 29, count := 0, began := b, outer := none }] (some 0) fs w' none true h' s') e ∧ e.answer = some true ∧ e.outcome = none ∧ e.frames = fTail pos' true 1 :: fs ∧ e.marks = #[q, r] ∧ e.lastmark = 1 ∧ e.lastindex = 1 ∧ e.handed = pos' ∧ e.start = p0 := by
    intro pos' h' s' fs w' b hw'
    exact ⟨_, (Rn.step (until57b hw')).trans (Rn.step succ58), rfl, rfl, rfl, rfl, rfl, rfl, rfl, rfl⟩
  -- the second way of the branch, behind a first way that fell
  have second : ∀ (pc pos' : Nat) (h' : Nat) (s' : Seen), (wsLen t pos ≤ 1) → ∃ k e fr, k ≤ 20 ∧
      Rn k (MM t p0 pc pos' #[q, r] 1 1 #[{ pc := 29, count := 0, began := some pos, outer := none }] (some 0) (fNext 34 pos true (kMarks #[q, r] 1 1) :: fMore pos true (kMarks #[q, r] 1 1) :: fClose pos true :: frames) (weight + 1 + 1 + 2 + 1 + 2) (some false) true h' s') e ∧
      e.answer = some true ∧ e.outcome = none ∧ e.frames = fr ++ frames ∧ fr.length ≤ 5 ∧ (∀ f ∈ fr, okWait f.wait = true) ∧ e.marks = #[q, r] ∧ e.lastmark = 1 ∧ e.lastindex = 1 ∧ e.handed = pos + wsLen t pos ∧ e.start = p0 := by
    intro pc pos' h' s' hl
    have a1 := Rn.step (next34 (t := t) (p0 := p0) (pc := pc) (pos := pos) (pos' := pos') (q := q) (r := r) (loops := #[{ pc := 29, count := 0, began := some pos, outer := none }]) (inner := some 0) (frames := fMore pos true (kMarks #[q, r] 1 1) :: fClose pos true :: frames) (outm := true) (o2 := true) (handed := h') (sn := s') (weight := weight + 1 + 1 + 2) (by omega))
    by_cases hc : pos < t.size ∧ isWsC (t.getD pos 0) = true
    · obtain ⟨s2, e2⟩ := in42 (p0 := p0) (marks := #[q, r]) (lm := 1) (li := 1) (loops := #[{ pc := 29, count := 0, began := some pos, outer := none }]) (inner := some 0) (frames := fNext 41 pos true (kMarks #[q, r] 1 1) :: fMore pos true (kMarks #[q, r] 1 1) :: fClose pos true :: frames) (outm := true) (handed := pos) (sn := s') (weight := weight + 1 + 1 + 2 + 1 + 2) hc.1 hc.2
      obtain ⟨e, f1, f2, f3, f4, f5, f6, f7, f8, f9⟩ := fin (pos + 1) pos (s2.add 15) (fNext 41 pos true (kMarks #[q, r] 1 1) :: fMore pos true (kMarks #[q, r] 1 1) :: fClose pos true :: frames) (weight + 1 + 1 + 2 + 1 + 2) (some pos) (by omega)
      have hwl : wsLen t pos = 1 := ws_one hl hc
      refine ⟨_, e, [fTail (pos + 1) true 1, fNext 41 pos true (kMarks #[q, r] 1 1), fMore pos true (kMarks #[q, r] 1 1), fClose pos true], by decide, ((a1.trans (Rn.step e2)).trans (Rn.step jump54)).trans f1, f2, f3, f4, by simp, ?_, f5, f6, f7, by rw [f8, hwl], f9⟩
      intro f hf
      simp only [List.mem_cons, List.not_mem_nil, or_false] at hf
      rcases hf with rfl | rfl | rfl | rfl <;> rfl
    · obtain ⟨s2, e2⟩ := in42' (p0 := p0) (marks := #[q, r]) (lm := 1) (li := 1) (loops := #[{ pc := 29, count := 0, began := some pos, outer := none }]) (inner := some 0) (frames := fNext 41 pos true (kMarks #[q, r] 1 1) :: fMore pos true (kMarks #[q, r] 1 1) :: fClose pos true :: frames) (outm := true) (handed := pos) (sn := s') (weight := weight + 1 + 1 + 2 + 1 + 2) hc
      have hwl : wsLen t pos = 0 := ws_zero hl hc
      refine ⟨_, _, [fTail pos true 0, fClose pos true], by decide, (((a1.trans (Rn.step e2)).trans (Rn.step next41)).trans (Rn.step (more_false (weight := weight + 1) (by omega)))).trans (Rn.step succ58), rfl, rfl, rfl, by simp, ?_, rfl, rfl, rfl, by rw [hwl]; rfl, rfl⟩
      intro f hf
      simp only [List.mem_cons, List.not_mem_nil, or_false] at hf
      rcases hf with rfl | rfl <;> rfl
  by_cases hA : pos < t.size ∧ t.getD pos 0 = 13
  · by_cases hB : pos + 1 < t.size ∧ t.getD (pos + 1) 0 = 10
    · have hwl : wsLen t pos = 2 := if_pos ⟨hA.1, hA.2, hB.1, hB.2⟩
      obtain ⟨e, f1, f2, f3, f4, f5, f6, f7, f8, f9⟩ := fin (pos + 1 + 1) pos _ (fNext 34 pos true (kMarks #[q, r] 1 1) :: fMore pos true (kMarks #[q, r] 1 1) :: fClose pos true :: frames) (weight + 1 + 1 + 2 + 1 + 2) (some pos) (by omega)
      refine ⟨_, e, [fTail (pos + 1 + 1) true 1, fNext 34 pos true (kMarks #[q, r] 1 1), fMore pos true (kMarks #[q, r] 1 1), fClose pos true], by decide, (((r1.trans (Rn.step (lit35 hA.1 hA.2))).trans (Rn.step (lit37 hB.1 hB.2))).trans (Rn.step jump39)).trans f1, f2, f3, f4, by simp, ?_, f5, f6, f7, by rw [f8, hwl], f9⟩
      intro f hf
      simp only [List.mem_cons, List.not_mem_nil, or_false] at hf
      rcases hf with rfl | rfl | rfl | rfl <;> rfl
    · have hl : wsLen t pos ≤ 1 := by
        unfold wsLen
        rw [if_neg fun x => hB ⟨x.2.2.1, x.2.2.2⟩]
        split <;> omega
      obtain ⟨s2, e2⟩ := lit37' (t := t) (p0 := p0) (pos := pos + 1) (marks := #[q, r]) (lm := 1) (li := 1) (loops := #[{ pc := 29, count := 0, began := some pos, outer := none }]) (inner := some 0) (frames := fNext 34 pos true (kMarks #[q, r] 1 1) :: fMore pos true (kMarks #[q, r] 1 1) :: fClose pos true :: frames) (outm := true) (handed := pos) (sn := (((sn.add 23).add 18).add 7).add 16) (weight := weight + 1 + 1 + 2 + 1 + 2) hB
      obtain ⟨k, e, fr, hk, g1, g2⟩ := second _ _ _ s2 hl
      exact ⟨_, e, fr, by show 1 + 1 + 1 + 1 + 1 + k ≤ 30; omega, ((r1.trans (Rn.step (lit35 hA.1 hA.2))).trans (Rn.step e2)).trans g1, g2⟩
  · have hl : wsLen t pos ≤ 1 := by
      unfold wsLen
      rw [if_neg fun x => hA ⟨x.1, x.2.1⟩]
      split <;> omega
    obtain ⟨s2, e2⟩ := lit35' (t := t) (p0 := p0) (pos := pos) (marks := #[q, r]) (lm := 1) (li := 1) (loops := #[{ pc := 29, count := 0, began := some pos, outer := none }]) (inner := some 0) (frames := fNext 34 pos true (kMarks #[q, r] 1 1) :: fMore pos true (kMarks #[q, r] 1 1) :: fClose pos true :: frames) (outm := true) (handed := pos) (sn := ((sn.add 23).add 18).add 7) (weight := weight + 1 + 1 + 2 + 1 + 2) hA
    obtain ⟨k, e, fr, hk, g1, g2⟩ := second _ _ _ s2 hl
    exact ⟨_, e, fr, by show 1 + 1 + 1 + 1 + k ≤ 30; omega, (r1.trans (Rn.step e2)).trans g1, g2⟩

theorem a_match {t : Array Nat} {p : Nat} (h1 : p + 2 ≤ t.size) (h2 : t.getD p 0 = 92) (h3 : 1 ≤ hexLen t p) :
    ∃ k e, k ≤ 100 ∧ Rn k (forMatch patCode t 1 p t.size false false) e ∧ e.outcome = some .matched ∧ e.marks = #[some (p + 1), some (p + 1 + hexLen t p)] ∧ e.lastmark = 1 ∧ e.lastindex = 1 ∧ e.handed = p + 1 + hexLen t p + wsLen t (p + 1 + hexLen t p) ∧ e.start = p := by
  rw [start_ok h1]
  obtain ⟨s1, e1⟩ := rep13 (p0 := p) (frames := []) (weight := 0) (outm := true) (handed := p) (sn := ((({} : Seen).add 14).add 16).add 17) (q := some (p + 1)) (show p + 1 ≤ t.size by omega) (n := hexLen t p) rfl h3 (by decide)
  obtain ⟨k, e, fr, hk, g1, g2, g3, g4, g5, g6, g7, g8, g9, g10, g11⟩ := tail_part (t := t) (p0 := p) (pos := p + 1 + hexLen t p) (q := some (p + 1)) (r := some (p + 1 + hexLen t p)) (frames := [fGive (p + 1 + hexLen t p) true (hexLen t p)]) (handed := p + 1 + hexLen t p) (sn := s1.add 17) (weight := 0 + 1) (by decide)
  have hok : ∀ f ∈ e.frames, okWait f.wait = true := by
    intro f hf
    rw [g4] at hf
    rcases List.mem_append.mp hf with hf | hf
    · exact g6 f hf
    · rw [List.mem_singleton.mp hf]; rfl
  obtain ⟨z, y1, y2, y3, y4, y5, y6, y7⟩ := yes_chain e.frames e rfl g2 g3 hok
  have hfl : e.frames.length ≤ 6 := by rw [g4, List.length_append]; simp; omega
  refine ⟨1 + 1 + 1 + 1 + k + (e.frames.length + 1), z, by omega, ?_, y2, y3.trans g7, y4.trans g8, y5.trans g9, y6.trans g10, y7.trans g11⟩
  exact ((((((Rn.step (lit9 (by omega) h2)).trans (Rn.step mark11)).trans (Rn.step e1)).trans (Rn.step mark27))).trans g1).trans y1
end Mine

end

theorem Mine.fresh_Re1 : True := by w_top off; trivial
section
open PySem PySem.W PySem.Spec PySem.Calls PyProof.Rows PySem.Builtin.Re
namespace Mine
set_option maxRecDepth 100000

theorem runFor_stop {m : Sre.M} (h : m.outcome.isSome = true) : ∀ n, Sre.M.runFor n m = m
  | 0 => rfl
  | n + 1 => by
    show (if m.outcome.isSome = true then m else _) = m
    rw [if_pos h]
section
variable {M : Model} {A : Around} {E : Value → Shared → Prop} {s : Shared}
theorem wp_drive {e : Sre.M} {Q : Sre.M → Shared → Prop} (he : e.outcome.isSome = true) (hq : Q e s) : ∀ (turns k : Nat) (m : Sre.M), k ≤ 4 * turns → 0 < turns → Rn k m e → wpAny M A (reDrive turns m) Q E s
  | 0, _, _, _, h, _ => absurd h (by decide)
  | t + 1, k, m, hk, _, hr => by
    show wpAny M A (if (m.runFor reTurnSteps).outcome.isSome = true then pure (m.runFor reTurnSteps) else (rule "sre.turn" >>= fun _ => reDrive t (m.runFor reTurnSteps))) Q E s
    have e4 : m.runFor reTurnSteps = m.runFor 4 := rfl
    rw [e4]
    by_cases h4 : k ≤ 4
    · have h5 : m.runFor 4 = e := by
        have : 4 = k + (4 - k) := by omega
        rw [this, runFor_add, hr, runFor_stop he]
      rw [h5, if_pos he]
      exact wpAny_pure hq
    · have h6 : Rn (k - 4) (m.runFor 4) e := by
        show Sre.M.runFor (k - 4) (m.runFor 4) = e
        have e2 : k = 4 + (k - 4) := by omega
        rw [← runFor_add, ← e2]
        exact hr
      by_cases ho : (m.runFor 4).outcome.isSome = true
      · have h7 : m.runFor 4 = e := by rw [← h6]; exact (runFor_stop ho _).symm
        rw [if_pos ho, h7]
        exact wpAny_pure hq
      · rw [if_neg ho]
        exact wpAny_bind (wpAny_rule (wp_drive he hq t (k - 4) _ (by omega) (by omega) h6))
theorem wp_tell (f : Nat → PUnit → Sem (ForInStep PUnit)) (hf : ∀ i u (Q : ForInStep PUnit → Shared → Prop), Q (.yield ⟨⟩) s → wpAny M A (f i u) Q E s) {Q : PUnit → Shared → Prop} (hq : Q ⟨⟩ s) : ∀ l : List Nat, wpAny M A (forIn l PUnit.unit f) Q E s
  | [] => wpAny_pure hq
  | x :: l => by
    rw [List.forIn_cons]
    exact wpAny_bind (hf x ⟨⟩ _ (wp_tell f hf hq l))
theorem wp_runToEnd {k : Nat} {m e : Sre.M} {Q : Option Sre.M → Shared → Prop} (hk : k ≤ 100) (hr : Rn k m e) (ho : e.outcome = some .failed ∧ Q none s ∨ e.outcome = some .matched ∧ Q (some e) s) : wpAny M A (reRunToEnd m) Q E s := by
  unfold reRunToEnd
  have he : e.outcome.isSome = true := by rcases ho with ⟨h, _⟩ | ⟨h, _⟩ <;> rw [h] <;> rfl
  refine wpAny_bind (wp_drive he ?_ (2 ^ 64) k m (Nat.le_trans hk (by decide)) (by decide) hr)
  refine wpAny_bind (wp_tell _ ?_ ?_ _)
  · intro i u Q' hQ'
    by_cases hs : e.seen.has i = true
    · rw [if_pos hs]
      exact wpAny_bind (wpAny_rule (wpAny_pure hQ'))
    · rw [if_neg hs]
      exact wpAny_bind (wpAny_pure (wpAny_pure hQ'))
  · rcases ho with ⟨h, q⟩ | ⟨h, q⟩ <;> rw [h] <;> exact wpAny_pure q
end
end Mine

end

theorem Mine.fresh_Re2 : True := by w_top off; trivial
section
open PySem PySem.W PySem.Spec PySem.Calls PyProof.Rows PySem.Builtin.Re
namespace Mine


set_option maxRecDepth 100000

theorem named3 {x i : Value} : reNamed "re.Pattern.match" "match" ["string", "pos", "endpos"] 1 [x, i] [] = pure [some x, some i, none] := rfl
section
variable {M : Model} {A : Around} {E : Value → Shared → Prop} {s : Shared}
theorem wp_ssize {i : Int} {u : Tok} {Q : Int → Shared → Prop} (h0 : 0 ≤ i) (h1 : i < 2 ^ 60) (h : Q i s) : wpAny M A (reSsize (.int i u)) Q E s := by
  unfold reSsize
  have e : asIndex (.int i u) = pure i := rfl
  rw [e]
  refine wpAny_bind (wpAny_pure ?_)
  have hc : (decide (i < -(2 ^ 63)) || decide (i ≥ 2 ^ 63)) = false := by
    simp only [Bool.or_eq_false_iff, decide_eq_false_iff_not]
    omega
  rw [if_neg (by rw [hc]; decide)]
  exact wpAny_bind (wpAny_pure (wpAny_pure h))
theorem wp_rawItems {a : Addr} {o : Obj} {items : Array Value} {n : Nat} {Q : Array Int → Shared → Prop} (ho : s.heap.get? a = some o) (hd : o.data = .seq items n) (h : Q (items.map reRawOf) s) : wpAny M A (reRawItems (.ref a)) Q E s := by
  unfold reRawItems
  exact wpAny_bind (wpAny_seqItems ho hd (wpAny_pure h))
theorem clip_eq {i : Int} {n : Nat} (hi : i ≤ n) : min i.toNat n = i.toNat := by omega
theorem clip_lim {n : Nat} (h : n < 2 ^ 60) : min (2 ^ 63 - 1 : Int).toNat n = n := by
  have e : (2 ^ 63 - 1 : Int).toNat = 2 ^ 63 - 1 := by decide
  rw [e]
  omega
theorem wp_target {po co : Obj} {c : Addr} {fs items : Array Value} {n : Nat} {x : Str} {t u g1 g2 : Tok} {i : Int} {Q : ReTarget → Shared → Prop}
    (hp : s.heap.get? 36 = some po) (hpd : po.data = .fields fs) (h2 : fs.getD 2 .none = .int 1 g1) (h5 : fs.getD 5 .none = .ref c) (h6 : fs.getD 6 .none = .int 0 g2)
    (hc : s.heap.get? c = some co) (hcd : co.data = .seq items n) (hcode : (items.map reRawOf).map (·.toNat) = patCode)
    (h0 : 0 ≤ i) (hi : i ≤ x.cps.size) (hx : x.cps.size < 2 ^ 60)
    (h : Q ⟨.ref 36, .str x t, patCode, x.cps, 0, 1, i.toNat, x.cps.size⟩ s) : wpAny M A (reTarget "re.Pattern.match" "match" ⟨[.ref 36, .str x t, .int i u], []⟩) Q E s := by
  unfold reTarget
  show wpAny M A (reNamed "re.Pattern.match" "match" ["string", "pos", "endpos"] 1 [.str x t, .int i u] [] >>= _) Q E s
  rw [named3]
  refine wpAny_bind (wpAny_pure ?_)
  refine wpAny_bind (wp_ssize h0 (by omega) ?_)
  refine wpAny_bind (wpAny_pure ?_)
  refine wpAny_bind (wpAny_fieldsOf hp hpd ?_)
  have e : reTextOf (.str x t) = pure (x.cps, 0) := rfl
  rw [e]
  refine wpAny_bind (wpAny_pure ?_)
  rw [h6, h2, h5]
  refine wpAny_ite_false (by rfl) ?_
  refine wpAny_ite_false (by rfl) ?_
  refine wpAny_bind (wpAny_pure ?_)
  refine wpAny_bind (wp_rawItems hc hcd ?_)
  refine wpAny_pure ?_
  show Q ⟨_, _, _, _, _, 1, min i.toNat x.cps.size, min (2 ^ 63 - 1 : Int).toNat x.cps.size⟩ s
  rw [hcode, clip_eq hi, clip_lim hx]
  exact h
/-- the pattern is met at place p -/
def IsM (xs : List Nat) (p : Nat) : Prop := p + 2 ≤ xs.length ∧ xs.getD p 0 = 92 ∧ 1 ≤ hexLen xs.toArray p
def spanOf (xs : List Nat) (p : Nat) : List Value := [.int p 0, .int (p + 1 + hexLen xs.toArray p + wsLen xs.toArray (p + 1 + hexLen xs.toArray p) : Nat) 0, .int (p + 1 : Nat) 0, .int (p + 1 + hexLen xs.toArray p : Nat) 0]
end
section
variable {prog : Program} {w : World} {A : Around} {E : Value → Shared → Prop} {s : Shared}
theorem pat_find : typeLookup (.type "re.Pattern") "match" = pure (some (.builtin "re.Pattern.match")) := by rw [typeLookup_type, builtinLookup_eq_fast]; kernel_rfl
theorem pat_slot : Slot "re.Pattern" "match" "re.Pattern.match" := Slot.of (owner := "re.Pattern") (n := "match") pat_find (by decide +kernel) (by decide +kernel) (by decide +kernel) (.inr (by decide +kernel)) (by kernel_rfl)
theorem pat_entry : entryFor table "re.Pattern.match" = some Builtin.«re.Pattern.match» := entryFor_of_tree (by kernel_rfl)
theorem pat_plain : PlainAttrs "re.Pattern" := ⟨⟨"object.__getattribute__", by rw [typeLookup_type, builtinLookup_eq_fast]; kernel_rfl, by decide +kernel⟩, by rw [typeLookup_type, builtinLookup_eq_fast]; kernel_rfl⟩
theorem pat_type : typeOf (.builtin "re.Pattern.match") = pure (.type "method_descriptor") := by kernel_rfl

theorem newMatch_eq {m : Sre.M} {b e i lim : Nat} {p x : Value} (f1 : m.marks = #[some b, some e]) (f2 : m.lastmark = 1) (f3 : m.lastindex = 1) (hbe : ¬ e < b) :
    reNewMatch p x 1 i lim m = (newTuple [rawInt m.start, rawInt m.handed, rawInt b, rawInt e] >>= fun v => newFields "re.Match" [x, p, rawInt i, rawInt lim, rawInt 1, v]) := by
  obtain ⟨⟩ := m
  dsimp only at f1 f2 f3
  subst f1 f2 f3
  unfold reNewMatch
  dsimp only
  rw [if_neg (by simp [List.range_succ, hbe])]
  rfl
theorem wp_match {po co : Obj} {c L : Addr} {h₀ : Heap} {m : Str → Option Value} {news : List (Addr × Obj)} {fs items : Array Value} {n : Nat} {xs : List Nat} {t u g1 g2 : Tok} {i : Int} {Q : Value → Shared → Prop}
    (F : Fr h₀ L s.heap m) (N : News h₀ L s.heap news)
    (hp : s.heap.get? 36 = some po) (hpt : po.cls = .type "re.Pattern") (hpd : po.data = .fields fs) (h2 : fs.getD 2 .none = .int 1 g1) (h5 : fs.getD 5 .none = .ref c) (h6 : fs.getD 6 .none = .int 0 g2)
    (hc : s.heap.get? c = some co) (hcd : co.data = .seq items n) (hcode : (items.map reRawOf).map (·.toNat) = patCode)
    (h0 : 0 ≤ i) (hi : i ≤ xs.length) (hx : xs.length ≤ 100000)
    (hno : ¬ IsM xs i.toNat → Q .none s)
    (hyes : IsM xs i.toNat → ∀ h' a1 a2 mo to, Fr h₀ L h' m → News h₀ L h' ((a2, mo) :: (a1, to) :: news) → (∀ p ∈ news, p.1 < a1) → a1 < a2 → mo.cls = .type "re.Match" → to.cls = .type "tuple" → mo.dict = none →
      mo.data = .fields #[.str (S xs) t, .ref 36, .int i.toNat 0, .int xs.length 0, .int 1 0, .ref a1] → to.data = .seq (spanOf xs i.toNat).toArray → Q (.ref a2) { s with heap := h' }) :
    wpAny (model prog w) A (call (.builtin "re.Pattern.match") [.ref 36, .str (S xs) t, .int i u]) Q E s := by
  refine wpAny_call_entry pat_slot ⟨_, hp, hpt⟩ pat_entry ?_ (by rfl)
  unfold Builtin.«re.Pattern.match»
  refine wpAny_bind (wp_target (x := S xs) hp hpd h2 h5 h6 hc hcd hcode h0 hi (show xs.length < 2 ^ 60 by omega) ?_)
  dsimp only
  have hsz : (S xs).cps.size = xs.toArray.size := rfl
  unfold reAnswer
  by_cases hm : IsM xs i.toNat
  · obtain ⟨k, e, hk, hr, ho, f1, f2, f3, f4, f5⟩ := a_match (t := xs.toArray) (p := i.toNat) hm.1 (by simpa using hm.2.1) hm.2.2
    refine wpAny_bind (wp_runToEnd hk hr (.inr ⟨ho, ?_⟩))
    dsimp only
    refine wpAny_bind ?_
    rw [newMatch_eq f1 f2 f3 (by omega), f4, f5]
    refine wpAny_bind (newTuple_N F N ?_)
    intro h1 F1 N1
    refine wpAny_newObj_type ?_
    refine wpAny_pure ⟨_, rfl, ?_⟩
    have hlt : s.heap.objs.size < h1.objs.size := Heap.lt_size (N1.get (.head _))
    exact hyes hm _ s.heap.objs.size h1.objs.size _ _ (F1.push _) (N1.push F1 _) (fun p hp => Heap.lt_size (N.get hp)) hlt rfl rfl rfl rfl rfl
  · obtain ⟨k, e, hk, hr, ho⟩ := no_match (t := xs.toArray) (p := i.toNat) (by show i.toNat ≤ xs.length; omega) (fun x => hm ⟨x.1, by simpa using x.2.1, x.2.2⟩)
    refine wpAny_bind (wp_runToEnd hk hr (.inl ⟨ho, ?_⟩))
    exact wpAny_pure ⟨_, rfl, hno hm⟩
end
end Mine

end

theorem Mine.fresh_Re3 : True := by w_top off; trivial
section
open PySem PySem.W PySem.Spec PySem.Calls PyProof.Rows PySem.Builtin.Re
namespace Mine
set_option maxRecDepth 100000
theorem grp_find : typeLookup (.type "re.Match") "group" = pure (some (.builtin "re.Match.group")) := by rw [typeLookup_type, builtinLookup_eq_fast]; kernel_rfl
theorem grp_slot : Slot "re.Match" "group" "re.Match.group" := Slot.of (owner := "re.Match") (n := "group") grp_find (by decide +kernel) (by decide +kernel) (by decide +kernel) (.inr (by decide +kernel)) (by kernel_rfl)
theorem grp_entry : entryFor table "re.Match.group" = some Builtin.«re.Match.group» := entryFor_of_tree (by kernel_rfl)
theorem grp_type : typeOf (.builtin "re.Match.group") = pure (.type "method_descriptor") := by kernel_rfl
theorem end_find : typeLookup (.type "re.Match") "end" = pure (some (.builtin "re.Match.end")) := by rw [typeLookup_type, builtinLookup_eq_fast]; kernel_rfl
theorem end_slot : Slot "re.Match" "end" "re.Match.end" := Slot.of (owner := "re.Match") (n := "end") end_find (by decide +kernel) (by decide +kernel) (by decide +kernel) (.inr (by decide +kernel)) (by kernel_rfl)
theorem end_entry : entryFor table "re.Match.end" = some Builtin.«re.Match.end» := entryFor_of_tree (by kernel_rfl)
theorem end_type : typeOf (.builtin "re.Match.end") = pure (.type "method_descriptor") := by kernel_rfl
theorem mat_plain : PlainAttrs "re.Match" := ⟨⟨"object.__getattribute__", by rw [typeLookup_type, builtinLookup_eq_fast]; kernel_rfl, by decide +kernel⟩, by rw [typeLookup_type, builtinLookup_eq_fast]; kernel_rfl⟩
theorem mat_bool : typeLookup (.type "re.Match") "__bool__" = pure none := by rw [typeLookup_type, builtinLookup_eq_fast]; kernel_rfl
theorem mat_len : typeLookup (.type "re.Match") "__len__" = pure none := by rw [typeLookup_type, builtinLookup_eq_fast]; kernel_rfl
section
variable {prog : Program} {w : World} {A : Around} {E : Value → Shared → Prop} {s : Shared} {mo to : Obj} {a2 a1 : Addr} {xs : List Nat} {t u : Tok} {p lim : Nat} {Q : Value → Shared → Prop}
/-- a match of the pattern, in the heap -/
structure IsMat (h : Heap) (a : Addr) (xs : List Nat) (p : Nat) : Prop where
  out : ∃ mo to a1 t lim, h.get? a = some mo ∧ mo.cls = .type "re.Match" ∧ mo.dict = none ∧ mo.data = .fields #[.str (S xs) t, .ref 36, .int p 0, .int lim 0, .int 1 0, .ref a1] ∧ h.get? a1 = some to ∧ to.data = .seq (spanOf xs p).toArray
theorem IsMat.ty {a : Addr} (h : IsMat s.heap a xs p) : s.TypeIs (.ref a) "re.Match" := by
  obtain ⟨mo, to, a1, t, lim, h1, h2, _⟩ := h.out
  exact ⟨mo, h1, h2⟩
def spansI (xs : List Nat) (p : Nat) : Array Int := #[(p : Int), ((p + 1 + hexLen xs.toArray p + wsLen xs.toArray (p + 1 + hexLen xs.toArray p) : Nat) : Int), ((p + 1 : Nat) : Int), ((p + 1 + hexLen xs.toArray p : Nat) : Int)]
theorem spans_eq (xs : List Nat) (p : Nat) : (spanOf xs p).toArray.map reRawOf = spansI xs p := by simp [spanOf, spansI, reRawOf]
theorem wp_found {M : Model} {a : Addr} {Q : ReFound → Shared → Prop} (h : IsMat s.heap a xs p) (hq : ∀ t lim a1, Q ⟨#[.str (S xs) t, .ref 36, .int p 0, .int lim 0, .int 1 0, .ref a1], spansI xs p⟩ s) : wpAny M A (reFound (.ref a)) Q E s := by
  obtain ⟨mo, to, a1, t, lim, h1, h2, h3, h4, h5, h6⟩ := h.out
  unfold reFound
  refine wpAny_bind (wpAny_fieldsOf h1 h4 ?_)
  refine wpAny_bind (wp_rawItems h5 h6 ?_)
  rw [spans_eq]
  exact wpAny_pure (hq _ _ _)
theorem wp_truth {M : Model} {a : Addr} {Q : Bool → Shared → Prop} (h : IsMat s.heap a xs p) (hq : Q true s) : wpAny M A (truthy (.ref a)) Q E s := by
  unfold truthy
  refine wpAny_bind (wpAny_callSpecial?_none h.ty mat_bool ?_)
  refine wpAny_bind (wpAny_specialOf h.ty mat_len ?_)
  exact wpAny_pure hq
theorem wp_end {a : Addr} (h : IsMat s.heap a xs p) (hq : Q (.int ((p + 1 + hexLen xs.toArray p + wsLen xs.toArray (p + 1 + hexLen xs.toArray p) : Nat) : Int) s.toks) { s with toks := s.toks + 1 }) : wpAny (model prog w) A (call (.builtin "re.Match.end") [.ref a]) Q E s := by
  refine wpAny_call_entry end_slot h.ty end_entry ?_ (by rfl)
  unfold Builtin.«re.Match.end» reOneGroup
  refine wpAny_bind (wpAny_bind ?_)
  show wpAny _ _ (pure (Value.ref a, ([] : List Value))) _ _ _
  refine wpAny_pure ?_
  dsimp only
  refine wpAny_bind (wp_found h ?_)
  intro t lim a1
  refine wpAny_bind (wpAny_pure ?_)
  refine wpAny_pure ?_
  dsimp only
  exact wpAny_bind (wpAny_mkInt' (wpAny_pure ⟨_, rfl, hq⟩))
theorem wp_group {a : Addr} (h : IsMat s.heap a xs p) (hx : xs.length ≤ 100000) (hq : Q (.str (S ((xs.drop (p + 1)).take (hexLen xs.toArray p))) s.toks) { s with toks := s.toks + 1 }) : wpAny (model prog w) A (call (.builtin "re.Match.group") [.ref a, .int 1 u]) Q E s := by
  refine wpAny_call_entry grp_slot h.ty grp_entry ?_ (by rfl)
  unfold Builtin.«re.Match.group»
  refine wpAny_bind (wpAny_pure ?_)
  dsimp only
  refine wpAny_bind (wp_found h ?_)
  intro t lim a1
  have e : ∀ fs : Array Value, reGroupNumber ⟨fs, spansI xs p⟩ (.int 1 u) = pure 1 := fun _ => rfl
  rw [e]
  refine wpAny_bind (wpAny_pure ?_)
  refine wpAny_bind ?_
  have e2 : reGroupText ⟨#[.str (S xs) t, .ref 36, .int p 0, .int lim 0, .int 1 0, .ref a1], spansI xs p⟩ 1 .none = mkStr ⟨(S xs).cps.extract (p + 1) (p + 1 + hexLen xs.toArray p)⟩ := rfl
  rw [e2]
  have e3 : (⟨(S xs).cps.extract (p + 1) (p + 1 + hexLen xs.toArray p)⟩ : Str) = S ((xs.drop (p + 1)).take (hexLen xs.toArray p)) := by
    show (⟨xs.toArray.extract _ _⟩ : Str) = Str.mk _
    congr 1
    apply Array.ext'
    simp
  rw [e3]
  refine wpAny_mkStr' (wpAny_pure ⟨_, rfl, hq⟩) ?_
  show ((xs.drop (p + 1)).take (hexLen xs.toArray p)).toArray.size ≤ sizeLine
  rw [List.size_toArray]
  have h1 : ((xs.drop (p + 1)).take (hexLen xs.toArray p)).length ≤ 100000 := by
    rw [List.length_take, List.length_drop]
    omega
  exact Nat.le_trans h1 (by decide)
end
end Mine

end

theorem Mine.fresh_Re4 : True := by w_top off; trivial
section
open PySem PySem.W PySem.Spec PySem.Calls PyProof.Rows PySem.NumText
namespace Mine
set_option maxRecDepth 100000
def digN (c : Nat) : Nat := if c ≤ 57 then c - 48 else if c ≤ 70 then c - 55 else c - 87
def hexCN (c : Nat) : Prop := (48 ≤ c ∧ c ≤ 57) ∨ (97 ≤ c ∧ c ≤ 102) ∨ (65 ≤ c ∧ c ≤ 70)
def hexN (ds : List Nat) : Nat := ds.foldl (fun acc c => acc * 16 + digN c) 0
theorem digit_hex {c : Nat} (h : hexCN c) : digit? c = some (digN c) ∧ digN c < 16 := by
  unfold digit? digN hexCN at *
  rcases h with h | h | h
  · have h1 : (decide (48 ≤ c) && decide (c ≤ 57)) = true := by simp [h.1, h.2]
    rw [if_pos h1, if_pos h.2]
    exact ⟨rfl, by omega⟩
  · have h1 : ¬ (decide (48 ≤ c) && decide (c ≤ 57)) = true := by simp; omega
    have h2 : (decide (97 ≤ c) && decide (c ≤ 122)) = true := by simp; omega
    rw [if_neg h1, if_pos h2, if_neg (by omega), if_neg (by omega)]
    exact ⟨rfl, by omega⟩
  · have h1 : ¬ (decide (48 ≤ c) && decide (c ≤ 57)) = true := by simp; omega
    have h2 : ¬ (decide (97 ≤ c) && decide (c ≤ 122)) = true := by simp; omega
    have h3 : (decide (65 ≤ c) && decide (c ≤ 90)) = true := by simp; omega
    rw [if_neg h1, if_neg h2, if_pos h3, if_neg (by omega), if_pos h.2]
    exact ⟨rfl, by omega⟩
theorem step_hex {ds : Array Nat} {b : Bool} {c : Nat} (h : hexCN c) : NumText.step 16 (ds, b) c = some (ds.push (digN c), true) := by
  have h1 := digit_hex h
  have h2 : (c == 95) = false := by unfold hexCN at h; simp; omega
  unfold NumText.step
  simp only [h2, h1.1, h1.2]
  rfl
/-- the steps over the figures gather their worths, in their order -/
theorem run16 {cs : List Nat} (h : ∀ c ∈ cs, hexCN c) (ds : Array Nat) : cs.foldlM (NumText.step 16) (ds, true) = some (ds ++ (cs.map digN).toArray, true) := by
  induction cs generalizing ds with
  | nil => simp only [List.foldlM_nil, List.map_nil, Array.append_empty]; rfl
  | cons c r ih =>
    have e := ih (fun d hd => h d (.tail _ hd)) (ds.push (digN c))
    simp only [List.foldlM_cons, step_hex (h c (.head _)), Option.bind_eq_bind, Option.bind_some, e, List.map_cons]
    simp
theorem digits16 {cs : List Nat} (h : ∀ c ∈ cs, hexCN c) (hne : cs ≠ []) : digits? 16 cs = some (cs.map digN).toArray := by
  obtain ⟨c, r, rfl⟩ := List.exists_cons_of_ne_nil hne
  have e := run16 (fun d hd => h d (.tail c hd)) (#[digN c])
  simp only [digits?, List.foldlM_cons, step_hex (h c (.head _)), Option.bind_eq_bind, Option.bind_some, List.push_toArray, List.nil_append, e]
  simp
theorem worth16 {cs : List Nat} : ((cs.map digN).toArray).foldl (fun acc d => acc * 16 + d) 0 = hexN cs := by
  simp [hexN, List.foldl_map]
theorem keeps {p : Nat → Bool} {cs : List Nat} (h : ∀ c ∈ cs, p c = false) : cs.dropWhile p = cs := by
  match cs, h with
  | [], _ => rfl
  | c :: _, h => simp [h c (.head _)]
theorem no_blank {cs : List Nat} (h : ∀ c ∈ cs, hexCN c) : ∀ c ∈ cs, blank c = false := fun c hc => blank_of (by have := h c hc; unfold hexCN at this; omega)
theorem based_hex {t : List Nat} : based 16 t = (16, false, t) ∨ ∃ c r, t = 48 :: c :: r ∧ (c = 120 ∨ c = 88) := by
  unfold based
  split
  · rename_i p hp
    unfold prefix? at hp
    split at hp
    · rename_i c r
      by_cases hc : (c == 120 || c == 88) = true
      · exact .inr ⟨c, r, rfl, by simpa using hc⟩
      · rw [if_neg hc] at hp
        left
        have hne : p ≠ 16 := by
          repeat' split at hp
          all_goals first | (cases hp; decide) | cases hp
        have e : ((16 : Nat) == 0 || (16 : Nat) == p) = false := Bool.or_eq_false_iff.mpr ⟨rfl, beq_eq_false_iff_ne.mpr fun e => hne e.symm⟩
        rw [e]; rfl
    · cases hp
  · exact .inl rfl
theorem sign_hex {cs : List Nat} (h : ∀ c ∈ cs, hexCN c) : sign cs = (false, cs) := by
  cases cs with
  | nil => rfl
  | cons c cs =>
    have := h c (.head _)
    unfold hexCN at this
    exact sign_of (by omega) (by omega)
theorem read_hex {cs : List Nat} (h : ∀ c ∈ cs, hexCN c) (hne : cs ≠ []) : (int_private% "readNumeral") 0 16 cs = (int_private% "Numeral.value") (hexN cs : Int) := by
  have hb : based 16 cs = (16, false, cs) := by
    rcases based_hex (t := cs) with hb | ⟨c, r, rfl, hc⟩
    · exact hb
    · have := h c (.tail _ (.head _))
      unfold hexCN at this
      omega
  have hr : cs.reverse.dropWhile blank = cs.reverse := keeps fun c hc => no_blank h c (List.mem_reverse.mp hc)
  rw [readNumeral_eq, keeps (no_blank h), sign_hex h]
  simp only [hb, hr, List.reverse_reverse, digits16 h hne]
  show (int_private% "Numeral.value") ((((cs.map digN).toArray).foldl (fun acc d => acc * 16 + d) 0 : Nat) : Int) = _
  rw [worth16]
namespace I16
open KIN
/-- a row of figures is read sign by sign, to its end -/
theorem chars16 {ds : List Nat} (hh : ∀ c ∈ ds, hexCN c) : numTextOf (S ds) = ds ∧ numSeenOf (S ds) = ds := by
  have lt : ∀ c ∈ ds, 0 < c ∧ c < 128 := fun c hc => by have := hh c hc; unfold hexCN at this; omega
  have e : numTextOf (S ds) = ds := by
    simp only [numTextOf, S]
    exact if_pos (by simpa using fun c hc => (lt c hc).2)
  have e2 : ds.takeWhile (· != 0) = ds := NumText.takeWhile_all fun c hc => by simpa using Nat.ne_of_gt (lt c hc).1
  exact ⟨e, by simp only [numSeenOf, e, e2]⟩
theorem typeCall_int_2 (a b : Value) : checkTypeCall "int" ⟨[a, b], []⟩ = pure () := by kernel_rfl
theorem newCall_int_2 (a b : Value) : checkBuiltinCall "int.__new__" ⟨[.type "int", a, b], []⟩ = pure () := by kernel_rfl
set_option maxHeartbeats 4000000 in
theorem gives_hex {ds : List Nat} {u t : Tok} (hl : ds.length ≤ 6) (hne : ds ≠ []) (hh : ∀ c ∈ ds, hexCN c) : Gives (Builtin.«int.__new__» ⟨[.type "int", .str (S ds) u, .int 16 t], []⟩) (.int (hexN ds : Int)) := by
  have short : (numSeenOf (S ds)).length ≤ 640 := by rw [(chars16 hh).2]; omega
  have whole : ((numSeenOf (S ds)).length == (numTextOf (S ds)).length) = true := by rw [(chars16 hh).1, (chars16 hh).2]; exact beq_self_eq_true _
  have value : (int_private% "readNumeral") 0 16 (numSeenOf (S ds)) = (int_private% "Numeral.value") (hexN ds : Int) := by rw [(chars16 hh).2]; exact read_hex hh hne
  have conv := F.conv_sub_int
  have made := F.madeHere_int
  have tp : typeOf (.str (S ds) u) = pure (.type "str") := rfl
  clear hl hne hh
  simp only [numSeenOf, numTextOf] at value whole
  refine .of_wp fun M A E s Q h => ?_
  cases s
  repeat (first
    | (with_reducible refine wpAny_ite_true (decide_eq_true short) ?_)
    | wp_step)
  rw [show Int.toNat 16 = 16 from rfl, value]
  refine wpAny_ite_true (decide_eq_true whole) ?_
  repeat (first | exact ⟨_, rfl, h⟩ | assumption | wp_step)
theorem call_hex {prog : Program} {w : World} {A : Around} {E : Value → Shared → Prop} {s : Shared} {Q : Value → Shared → Prop} {ds : List Nat} {u t : Tok} (hl : ds.length ≤ 6) (hne : ds ≠ []) (hh : ∀ c ∈ ds, hexCN c)
    (h : Q (.int (hexN ds : Int) s.toks) { s with toks := s.toks + 1 }) : wpAny (model prog w) A (call (.type "int") [.str (S ds) u, .int 16 t]) Q E s :=
  callType_new F.called_int F.newNe_int (typeCall_int_2 _ _) (newCall_int_2 _ _) (fun obj => F.args_object_init_3 obj _ _) F.entry_int_new (gives_hex hl hne hh).meets (show (Made.int (hexN ds : Int)).post _ s from ⟨rfl, h⟩)
end I16
end Mine

end

theorem Mine.fresh_D8 : True := by w_top off; trivial
section
open PySem PySem.W PySem.Spec PySem.Calls PyProof.Rows
namespace Mine
set_option maxRecDepth 100000

/-- the digits that the pattern meets at place p -/
def grp (xs : List Nat) (p : Nat) : List Nat := (xs.drop (p + 1)).take (hexLen xs.toArray p)
def MatIn (news : List (Addr × Obj)) (a : Addr) (xs : List Nat) (p : Nat) : Prop :=
  ∃ mo to a1 t lim, (a, mo) ∈ news ∧ mo.cls = .type "re.Match" ∧ mo.dict = none ∧ mo.data = .fields #[.str (S xs) t, .ref 36, .int p 0, .int lim 0, .int 1 0, .ref a1] ∧ (a1, to) ∈ news ∧ to.data = .seq (spanOf xs p).toArray
structure MatP (mo to : Obj) (a1 : Addr) (xs : List Nat) (p : Nat) : Prop where
  out : mo.cls = .type "re.Match" ∧ mo.dict = none ∧ (∃ t lim, mo.data = .fields #[.str (S xs) t, .ref 36, .int p 0, .int lim 0, .int 1 0, .ref a1]) ∧ to.data = .seq (spanOf xs p).toArray
theorem MatIn.of {news : List (Addr × Obj)} {a a1 : Addr} {mo to : Obj} {xs : List Nat} {p : Nat} (H : MatP mo to a1 xs p) (h1 : (a, mo) ∈ news) (h2 : (a1, to) ∈ news) : MatIn news a xs p := by
  obtain ⟨e1, e2, ⟨t, lim, e3⟩, e4⟩ := H.out
  exact ⟨mo, to, a1, t, lim, h1, e1, e2, e3, h2, e4⟩
theorem MatIn.is {h₀ h : Heap} {L : Addr} {news : List (Addr × Obj)} {a : Addr} {xs : List Nat} {p : Nat} (H : MatIn news a xs p) (N : News h₀ L h news) : IsMat h a xs p := by
  obtain ⟨mo, to, a1, t, lim, h1, h2, h3, h4, h5, h6⟩ := H
  exact ⟨mo, to, a1, t, lim, N.get h1, h2, h3, h4, N.get h5, h6⟩

section
variable {prog : Program} {w : World} {A : Around} {E : Value → Shared → Prop} {s : Shared} {h₀ : Heap} {L a : Addr} {news : List (Addr × Obj)} {xs : List Nat} {p : Nat} {u : Tok}
theorem mat_method {n : Str} {id : String} {pl : Sem Bool} {Q : Value × List Value → Shared → Prop} (N : News h₀ L s.heap news) (H : MatIn news a xs p) (sl : Slot "re.Match" n id) (ty : typeOf (.builtin id) = pure (.type "method_descriptor")) (h : Q (.builtin id, [.ref a]) s) :
    wpAny (model prog w) A (getMethod (.ref a) n pl) Q E s := by
  refine getMethod_builtin (H.is N).ty mat_plain sl ty ?_ h
  intro b hb
  obtain ⟨mo, to, a1, t, lim, h1, h2, h3, h4, h5, h6⟩ := (H.is N).out
  cases hb
  exact ⟨mo, h1, h3⟩
theorem mat_group {Q : Value → Shared → Prop} (N : News h₀ L s.heap news) (H : MatIn news a xs p) (hx : xs.length ≤ 100000) (hq : ∀ t, Q (.str (S (grp xs p)) t) { s with toks := s.toks + 1 }) : wpAny (model prog w) A (call (.builtin "re.Match.group") [.ref a, .int 1 u]) Q E s :=
  wp_group (H.is N) hx (hq _)
/-- where the next reading starts behind a match at place p -/
def nxt (xs : List Nat) (p : Nat) : Nat := p + 1 + hexLen xs.toArray p + wsLen xs.toArray (p + 1 + hexLen xs.toArray p)
theorem mat_end {Q : Value → Shared → Prop} (N : News h₀ L s.heap news) (H : MatIn news a xs p) (hq : ∀ t, Q (.int (nxt xs p : Int) t) { s with toks := s.toks + 1 }) : wpAny (model prog w) A (call (.builtin "re.Match.end") [.ref a]) Q E s :=
  wp_end (H.is N) (hq _)
end
section
local macro_rules | `(tactic| walk_at "getMethod ref") => `(tactic| ((with_reducible show wpAny _ _ (getMethod (Value.ref _) (Str.ofString "group") _) _ _ _); (with_reducible rename News _ _ _ _ => N'); refine mat_method (s := ⟨_, _, _, _, _⟩) N' (by with_reducible assumption) grp_slot grp_type ?_))
local macro_rules | `(tactic| walk_at "call builtin:re.Match.group") => `(tactic| ((with_reducible show wpAny _ _ (call (Value.builtin _) [Value.ref _, _]) _ _ _); (with_reducible rename News _ _ _ _ => N'); refine mat_group (s := ⟨_, _, _, _, _⟩) N' (by with_reducible assumption) (by with_reducible assumption) ?_; intro _))
local macro_rules | `(tactic| walk_at "call type:int") => `(tactic| ((with_reducible_and_instances show wpAny _ _ (call (Value.type "int") [Value.str _ _, Value.int _ _]) _ _ _); refine I16.call_hex (s := ⟨_, _, _, _, _⟩) (by with_reducible assumption) (by with_reducible assumption) (by with_reducible assumption) ?_))
set_option maxHeartbeats 4000000 in
theorem repl0 {w : World} {xs : List Nat} {p0 : Nat} {a2 : Addr} {news : List (Addr × Obj)} (hm : MatIn news a2 xs p0) (hx : xs.length ≤ 100000) (hne : grp xs p0 ≠ []) (hl6 : (grp xs p0).length ≤ 6) (hh : ∀ c ∈ grp xs p0, hexCN c) :
    Con w 1 8 43 [.ref a2] news (fun _ => True)
      (fun v news' => ∃ t, v = .str (S [meantC (hexN (grp xs p0) : Int)]) t ∧ news' = news) := by
  unfold Con
  k_fill
  intro _ p loose mean mg mb dp un gd cn cs a ccd cl outer A₀ base h₀ L m s Q E B F X N T hk hl hd hu ret
  refine wpAny_call ?_
  k_dflt (refine' code_def' [(Str.ofString "match", .ref a2)] ?k1 ?k2 ?k3 ?k4 ?k5 ?kA ?kF ?kK ?k6 ?k7 ?k8 ?k9 ?kB ?_ ?c2 ?c3 ?c4 ?c5; (case kA => exact rfl); (case kF => exact rfl); (case kK => assumption); (case k1 => k_asm); (case k2 => k_asm); (case k3 => k_asm); (case k4 => k_asm); (case k5 => k_asm); (case k6 => k_is); (case k7 => k_is); (case k8 => ktr_room); (case k9 => exact BindsTo.of_eq rfl); (case c5 => decide); (case kB => exact locs rfl); (case c2 => exact rfl); (case c3 => exact rfl); (case c4 => exact rfl); k_whole; intro g' L' h' tk' FG' F' N' B' X' T'; (replace F' : Fr g' L' h' (fm [(Str.ofString "match", .ref a2)]) := F'); (try dsimp only); (try k_lift B'); (try k_fold))
  k_steps
  all_goals first
    | exact ret _ _ _ _ ⟨_, congrArg (fun c => Value.str (S [c]) _) (meant_bad (by omega)).symm, rfl⟩ (by assumption) (by assumption)
    | exact ret _ _ _ _ ⟨_, congrArg (fun c => Value.str (S [c]) _) (meant_good (by omega)).symm, rfl⟩ (by assumption) (by assumption)
end
end Mine

end

theorem Mine.fresh_Pure3 : True := by w_top off; trivial
section
open PySem PySem.W PySem.Spec PySem.Calls PyProof.Rows
namespace Mine
set_option maxRecDepth 100000

theorem cnt_le (t : Array Nat) : ∀ (f p : Nat), cntHex t f p ≤ f
  | 0, _ => Nat.le_refl _
  | f + 1, p => by
    unfold cntHex
    have := cnt_le t f (p + 1)
    split <;> omega
theorem hexLen_le (t : Array Nat) (p : Nat) : hexLen t p ≤ 6 ∧ hexLen t p ≤ t.size - (p + 1) := by
  have := cnt_le t (min 6 (t.size - (p + 1))) (p + 1)
  unfold hexLen
  omega
theorem wsLen_le (t : Array Nat) (q : Nat) (h : q ≤ t.size) : q + wsLen t q ≤ t.size := by
  unfold wsLen
  split
  · omega
  · split <;> omega
theorem nxt_le {xs : List Nat} {p : Nat} (h : p + 2 ≤ xs.length) : p < nxt xs p ∧ nxt xs p ≤ xs.length := by
  have h1 := hexLen_le xs.toArray p
  have h2 := wsLen_le xs.toArray (p + 1 + hexLen xs.toArray p) (by have : xs.toArray.size = xs.length := rfl; omega)
  have h3 : xs.toArray.size = xs.length := rfl
  unfold nxt
  omega
theorem grp_len {xs : List Nat} {p : Nat} : (grp xs p).length = hexLen xs.toArray p := by
  have h1 := hexLen_le xs.toArray p
  have h3 : xs.toArray.size = xs.length := rfl
  unfold grp
  rw [List.length_take, List.length_drop]
  omega
theorem grp_ne {xs : List Nat} {p : Nat} (h : IsM xs p) : grp xs p ≠ [] := by
  intro e
  have h1 := grp_len (xs := xs) (p := p)
  have h2 := h.2.2
  rw [e] at h1
  simp at h1
  omega
theorem grp_6 {xs : List Nat} {p : Nat} : (grp xs p).length ≤ 6 := by
  rw [grp_len]
  exact (hexLen_le _ _).1
/-- what the first step makes of a text, from place i on -/
inductive SubU (xs : List Nat) : Nat → List Nat → Prop
  | done {i : Nat} : ¬ i < xs.length → SubU xs i []
  | hit {i : Nat} {ys : List Nat} : i < xs.length → IsM xs i → SubU xs (nxt xs i) ys → SubU xs i (meantC (hexN (grp xs i) : Int) :: ys)
  | miss {i : Nat} {ys : List Nat} : i < xs.length → ¬ IsM xs i → SubU xs (i + 1) ys → SubU xs i (xs.getD i 0 :: ys)
theorem SubU.eq {xs : List Nat} {i : Nat} {a : List Nat} (h : SubU xs i a) : ∀ {b : List Nat}, SubU xs i b → a = b := by
  induction h with
  | done h => intro b hb; cases hb with
    | done => rfl
    | hit h1 => exact absurd h1 h
    | miss h1 => exact absurd h1 h
  | hit h1 h2 h3 ih => intro b hb; cases hb with
    | done g => exact absurd h1 g
    | hit g1 g2 g3 => rw [ih g3]
    | miss g1 g2 => exact absurd h2 g2
  | miss h1 h2 h3 ih => intro b hb; cases hb with
    | done g => exact absurd h1 g
    | hit g1 g2 => exact absurd g2 h2
    | miss g1 g2 g3 => rw [ih g3]
/-- how far the first step has come -/
def SubUAt (xs : List Nat) (i : Nat) (ts : List (List Nat)) : Prop := i ≤ xs.length ∧ (∀ ys, SubU xs i ys → SubU xs 0 (ts.flatten ++ ys)) ∧ ts.flatten.length ≤ i
theorem SubUAt.start (xs : List Nat) : SubUAt xs 0 [] := ⟨Nat.zero_le _, fun _ h => h, Nat.le_refl _⟩
theorem SubUAt.hit {xs : List Nat} {i : Nat} {ts : List (List Nat)} (h : SubUAt xs i ts) (hm : IsM xs i) : SubUAt xs (nxt xs i) (ts ++ [[meantC (hexN (grp xs i) : Int)]]) := by
  have h1 := nxt_le hm.1
  refine ⟨h1.2, fun ys hy => ?_, by simp; have := h.2.2; simp at this; omega⟩
  have := h.2.1 _ (.hit (by have := hm.1; omega) hm hy)
  simpa using this
theorem SubUAt.miss {xs : List Nat} {i : Nat} {ts : List (List Nat)} (h : SubUAt xs i ts) (hi : i < xs.length) (hm : ¬ IsM xs i) : SubUAt xs (i + 1) (ts ++ [[xs.getD i 0]]) := by
  refine ⟨hi, fun ys hy => ?_, by simp; have := h.2.2; simp at this; omega⟩
  have := h.2.1 _ (.miss hi hm hy)
  simpa using this
theorem SubUAt.done {xs : List Nat} {i : Nat} {ts : List (List Nat)} (h : SubUAt xs i ts) (hi : ¬ i < xs.length) : SubU xs 0 ts.flatten := by
  have := h.2.1 _ (.done hi)
  simpa using this
section
variable {prog : Program} {w : World} {A : Around} {E : Value → Shared → Prop} {s : Shared} {h₀ : Heap} {L a : Addr} {m : Str → Option Value} {news : List (Addr × Obj)} {K : Frag} {xs : List Nat} {t u : Tok}
theorem pat_match {od od' : Option Addr} {fs items : Array Value} {n : Nat} {sl sl' : Array (Option Value)} {c : Addr} {g1 g2 : Tok} {i : Nat} {Q : Value → Shared → Prop} (F : Fr h₀ L s.heap m) (N : News h₀ L s.heap news) (X : K.In h₀)
    (hp : K.lookup 36 = some ⟨.type "re.Pattern", od, .fields fs, sl⟩) (h2 : fs.getD 2 .none = .int 1 g1) (h5 : fs.getD 5 .none = .ref c) (h6 : fs.getD 6 .none = .int 0 g2)
    (hc : K.lookup c = some ⟨.type "tuple", od', .seq items n, sl'⟩) (hcode : (items.map PySem.Builtin.Re.reRawOf).map (·.toNat) = patCode)
    (hi : i ≤ xs.length) (hx : xs.length ≤ 100000)
    (hno : ¬ IsM xs i → Q .none s)
    (hyes : IsM xs i → ∀ h' a1 a2 mo to, Fr h₀ L h' m → News h₀ L h' ((a2, mo) :: (a1, to) :: news) → (∀ p ∈ news, p.1 < a1) → a1 < a2 → MatP mo to a1 xs i → Q (.ref a2) { s with heap := h' }) :
    wpAny (model prog w) A (call (.builtin "re.Pattern.match") [.ref 36, .str (S xs) t, .int (i : Int) u]) Q E s := by
  refine wp_match F N (F.keep _ _ (X _ _ hp)) rfl rfl h2 h5 h6 (F.keep _ _ (X _ _ hc)) rfl hcode (by omega) (by omega) hx ?_ ?_
  · exact hno
  · intro hm h' a1 a2 mo to F' N' l1 l2 e1 e2 e3 e4 e5
    exact hyes hm h' a1 a2 mo to F' N' l1 l2 ⟨e1, e3, ⟨t, _, e4⟩, e5⟩
theorem pat_method {fs : Array Value} {sl : Array (Option Value)} {pl : Sem Bool} {Q : Value × List Value → Shared → Prop} (F : Fr h₀ L s.heap m) (X : K.In h₀) (hp : K.lookup 36 = some ⟨.type "re.Pattern", none, .fields fs, sl⟩) (h : Q (.builtin "re.Pattern.match", [.ref 36]) s) :
    wpAny (model prog w) A (getMethod (.ref 36) (Str.ofString "match") pl) Q E s := by
  have ho := F.keep _ _ (X _ _ hp)
  refine getMethod_builtin ⟨_, ho, rfl⟩ pat_plain pat_slot pat_type ?_ h
  intro b hb
  cases hb
  exact ⟨_, ho, rfl⟩
theorem mat_truth {i : Nat} {Q : Bool → Shared → Prop} (N : News h₀ L s.heap news) (H : MatIn news a xs i) (hq : Q true s) : wpAny (model prog w) A (truthy (.ref a)) Q E s := wp_truth (H.is N) hq
end
end Mine

end

theorem Mine.fresh_D9 : True := by w_top off; trivial
section
open PySem PySem.W PySem.Spec PySem.Calls PyProof.Rows
namespace Mine
set_option maxRecDepth 100000
/-- wherever the pattern is met, what it met are digits -/
def AllHex (xs : List Nat) : Prop := ∀ i, IsM xs i → ∀ c ∈ grp xs i, hexCN c
section
local macro_rules | `(tactic| k_all) => `(tactic| with_reducible assumption)
local macro_rules | `(tactic| walk_at "exec While Compare cons nil") => `(tactic| (refine Stop.at ?_))
local macro_rules | `(tactic| walk_at "getMethod ref") => `(tactic| (k_here; (with_reducible show wpAny _ _ (getMethod (Value.ref 36) (Str.ofString "match") _) _ _ _); k_dflt (refine' pat_method ?F ?X ?o ?_; (case F => k_asm); (case X => k_asm); (case o => k_is))))
local macro_rules | `(tactic| walk_at "call builtin:re.Pattern.match") => `(tactic| (k_here; (with_reducible show wpAny _ _ (call (Value.builtin _) [Value.ref _, Value.str _ _, Value.int _ _]) _ _ _); k_dflt (refine' pat_match (c := 35) ?F ?N ?X ?hp ?h2 ?h5 ?h6 ?hc ?hcode ?hi ?hx ?no ?yes; (case F => k_asm); (case N => k_asm); (case X => k_asm); (case hp => k_is); (case h2 => exact rfl); (case h5 => exact rfl); (case h6 => exact rfl); (case hc => k_is); (case hcode => decide +kernel); (case hi => omega); (case hx => with_reducible assumption); (case' no => intro hnm); (case' yes => (intro hmm h' a1 a2 mo to F' N' lA l1 hMat; have hlr := ltN (lA _ (.head _)); (try dsimp only at hlr); (replace l1 := ltN l1)))); (try dsimp only); (try k_fold)))
local macro_rules | `(tactic| walk_at "truthy ref") => `(tactic| ((with_reducible rename News _ _ _ _ => N'); refine mat_truth (s := ⟨_, _, _, _, _⟩) N' (MatIn.of (by with_reducible assumption) (by k_mem) (by k_mem)) ?_))
local macro_rules | `(tactic| walk_at "getMethod ref") => `(tactic| ((with_reducible show wpAny _ _ (getMethod (Value.ref _) (Str.ofString "end") _) _ _ _); (with_reducible rename News _ _ _ _ => N'); refine mat_method (s := ⟨_, _, _, _, _⟩) N' (MatIn.of (by with_reducible assumption) (by k_mem) (by k_mem)) end_slot end_type ?_))
local macro_rules | `(tactic| walk_at "call builtin:re.Match.end") => `(tactic| ((with_reducible show wpAny _ _ (call (Value.builtin _) [Value.ref _]) _ _ _); (with_reducible rename News _ _ _ _ => N'); refine mat_end (s := ⟨_, _, _, _, _⟩) N' (MatIn.of (by with_reducible assumption) (by k_mem) (by k_mem)) ?_; intro _))
local macro_rules | `(tactic| walk_at "call ref") => `(tactic| (k_here; (with_reducible show wpAny _ _ (call (Value.ref 43) _) _ _ _); (with_reducible rename AllHex _ => hallX); k_dflt (refine' Con.use (repl0 ?hm ?hx ?hne ?hl6 ?hh) ?B ?F ?X ?N ?T ?hk ?hp ?hd ?hu ?_; (case B => k_asm); (case F => k_asm); (case X => k_asm); (case N => k_asm); (case T => k_asm); (case hm => exact MatIn.of (by with_reducible assumption) (by k_mem) (by k_mem)); (case hx => with_reducible assumption); (case hne => exact grp_ne (by with_reducible assumption)); (case hl6 => exact grp_6); (case hh => exact hallX _ (by with_reducible assumption)); (case hk => first | exact rfl | with_reducible assumption); (case hp => first | exact trivial | with_reducible assumption | assumption); (case hd => ktr_room); (case hu => ktr_units)); (rintro _ _ _ _ ⟨t1, hv, hn⟩ _ _); subst hv; subst hn; (try dsimp only); (try k_fold)))
local macro_rules | `(tactic| walk_at "call builtin:len") => `(tactic| ((with_reducible show wpAny _ _ (call (Value.builtin "len") [Value.str _ _]) _ _ _); refine Mine.s_len (by with_reducible rfl) (by omega) ?_; intro _ _))
local macro_rules | `(tactic| walk_at "subscriptTail Name Name str int") => `(tactic| (refine Mine.s_item (by with_reducible rfl) (by omega) (by omega) (by omega) ?_))
local macro_rules | `(tactic| walk_at "call builtin:list.append") => `(tactic| (k_here; (with_reducible show wpAny _ _ (call (Value.builtin _) [Value.ref _, _]) _ _ _); k_dflt (refine' l_append ?k1 ?k2 ?k3 ?z ?_; (case k1 => k_asm); (case k2 => k_asm); (case k3 => k_upd); (case z => omega); k_whole); intro h' F' N'; (try k_sweep)))
local macro_rules | `(tactic| walk_at "call builtin:str.join") => `(tactic| (k_here; (with_reducible rename News _ _ _ _ => N'); refine s_join N' (.head _) (by assumption) lit_empty (by omega) ?_; intro _ _))
set_option maxHeartbeats 4000000 in
theorem subU0 {w : World} {xs : List Nat} {ta : Tok} {news : List (Addr × Obj)} (h0 : xs.length ≤ 100000) (hall : AllHex xs) :
    Con w 2 20 50 [.str (S xs) ta] news (fun _ => True)
      (fun v news' => ∃ ys t, v = .str (S ys) t ∧ SubU xs 0 ys ∧ ys.length ≤ xs.length ∧ news' = news) := by
  unfold Con
  k_fill
  intro _ p loose mean mg mb dp un gd cn cs a ccd cl outer A₀ base h₀ L m s Q E B F X N T hk hl hd hu ret
  refine wpAny_call ?_
  k_dflt (refine' code_def' [(Str.ofString "value", .str (S xs) ta)] ?k1 ?k2 ?k3 ?k4 ?k5 ?kA ?kF ?kK ?k6 ?k7 ?k8 ?k9 ?kB ?_ ?c2 ?c3 ?c4 ?c5; (case kA => exact rfl); (case kF => exact rfl); (case kK => assumption); (case k1 => k_asm); (case k2 => k_asm); (case k3 => k_asm); (case k4 => k_asm); (case k5 => k_asm); (case k6 => k_is); (case k7 => k_is); (case k8 => ktr_room); (case k9 => exact BindsTo.of_eq rfl); (case c5 => decide); (case kB => exact locs rfl); (case c2 => exact rfl); (case c3 => exact rfl); (case c4 => exact rfl); k_whole; intro g' L' h' tk' FG' F' N' B' X' T'; (replace F' : Fr g' L' h' (fm [(Str.ofString "value", .str (S xs) ta)]) := F'); (try dsimp only); (try k_lift B'); (try k_fold))
  k_steps
  refine Stop.go ?_
  rename Fr _ _ _ _ => F1
  rename News _ _ _ _ => N1
  rename_i lr h4 hlr D h3 hD h2 h1 hh
  have hne : ∀ p ∈ news, p.1 ≠ lr := fun p hp => Nat.ne_of_lt (hlr p hp)
  have F2 := Fr_fmO F1 [("result", .ref lr), ("pos", .int 0 _), ("value", .str (S xs) ta)] ⟨rfl, rfl, rfl, trivial⟩
  have N2 := News.perm N1 (news' := (lr, W.listOf #[] 0) :: news) (fun p hp => .tail _ hp)
  refine While_inv (fun n m' nx => ∃ (i : Nat) (ti : Tok) (ys : List Value) (e : Nat) (ts : List (List Nat)) (rest : Str → Option Value), m' = fmO [("result", .ref lr), ("pos", .int (i : Int) ti), ("value", .str (S xs) ta)] rest ∧ nx = (lr, W.listOf ys.toArray e) :: news ∧ StrsAre ys (ts.map S) ∧ SubUAt xs i ts ∧ ys.length ≤ i ∧ n = xs.length - i) F2 N2 ⟨0, _, [], 0, [], _, rfl, rfl, .nil, SubUAt.start xs, Nat.le_refl _, rfl⟩ ?_
  rintro n m₁ nx h tk F3 N3 ⟨i, ti, ys, e, ts, rest, rfl, rfl, hys, hS, hyl, rfl⟩
  clear F1 F2 N1 N2 hD
  have hiL := hS.1
  have hfl := hS.2.2
  k_steps
  · rename Fr _ _ _ _ => F9
    rename News _ _ _ _ => N9
    rename IsM xs i => hM
    have hx9 := nxt_le hM.1
    refine WhileStep.intro (Fr_fmO F9 [("result", .ref lr), ("pos", .int ((nxt xs i : Nat) : Int) _), ("value", .str (S xs) ta)] ⟨rfl, rfl, rfl, trivial⟩) (News.perm N9 (news' := (lr, _) :: news) fun p hp => .tail _ (.tail _ hp)) (by omega) ⟨nxt xs i, _, _, _, _, _, rfl, rfl, strs_snocS hys, hS.hit hM, by simp; omega, rfl⟩
  · rename Fr _ _ _ _ => F9
    rename News _ _ _ _ => N9
    rename ¬ IsM xs i => hM
    have e9 : (i : Int).toNat = i := by omega
    refine WhileStep.intro (Fr_fmO F9 [("result", .ref lr), ("pos", .int ((i + 1 : Nat) : Int) _), ("value", .str (S xs) ta)] ⟨rfl, rfl, rfl, trivial⟩) N9 (by omega) ⟨i + 1, _, _, _, _, _, rfl, rfl, strs_snocS hys, (by rw [e9]; exact hS.miss (by omega) hM), by simp; omega, rfl⟩
  · rename News h₀ L _ _ => N9
    have hd := hS.done (by omega)
    exact ret _ _ _ news ⟨_, _, rfl, hd, by omega, rfl⟩ (by assumption) (News.perm N9 fun p hp => .tail _ hp)
end
end Mine

end

theorem Mine.fresh_D10 : True := by w_top off; trivial
section
open PySem PySem.W PySem.Spec PySem.Calls PyProof.Rows
namespace Mine
set_option maxRecDepth 100000
section
local macro_rules | `(tactic| walk_at "call ref") => `(tactic| (k_here; (with_reducible show wpAny _ _ (call (Value.ref 50) _) _ _ _); k_dflt (refine' Con.use (subU0 ?h0 ?h1) ?B ?F ?X ?N ?T ?hk ?hp ?hd ?hu ?_; (case B => k_asm); (case F => k_asm); (case X => k_asm); (case N => k_asm); (case T => k_asm); (case h0 => with_reducible assumption); (case h1 => with_reducible assumption); (case hk => first | exact rfl | with_reducible assumption); (case hp => first | exact trivial | with_reducible assumption | assumption); (case hd => ktr_room); (case hu => ktr_units)); (rintro _ _ _ _ ⟨ys, t1, hv, hS, hl, hn⟩ _ _); subst hv; subst hn; (try dsimp only); (try k_fold)))
local macro_rules | `(tactic| walk_at "call ref") => `(tactic| (k_here; (with_reducible show wpAny _ _ (call (Value.ref 57) _) _ _ _); k_dflt (refine' Con.use (subS0 ?h0) ?B ?F ?X ?N ?T ?hk ?hp ?hd ?hu ?_; (case B => k_asm); (case F => k_asm); (case X => k_asm); (case N => k_asm); (case T => k_asm); (case h0 => omega); (case hk => first | exact rfl | with_reducible assumption); (case hp => first | exact trivial | with_reducible assumption | assumption); (case hd => ktr_room); (case hu => ktr_units)); (rintro _ _ _ _ ⟨t1, hv, hn⟩ _ _); subst hv; subst hn; (try dsimp only); (try k_fold)))
set_option maxHeartbeats 4000000 in
theorem unes0 {w : World} {xs : List Nat} {ta : Tok} {news : List (Addr × Obj)} (h0 : xs.length ≤ 100000) (hall : AllHex xs) :
    Con w 3 30 64 [.str (S xs) ta] news (fun _ => True)
      (fun v news' => ∃ ys t, v = .str (S (subS ys)) t ∧ SubU xs 0 ys ∧ news' = news) := by
  unfold Con
  k_fill
  intro _ p loose mean mg mb dp un gd cn cs a ccd cl outer A₀ base h₀ L m s Q E B F X N T hk hl hd hu ret
  refine wpAny_call ?_
  k_dflt (refine' code_def' [(Str.ofString "value", .str (S xs) ta)] ?k1 ?k2 ?k3 ?k4 ?k5 ?kA ?kF ?kK ?k6 ?k7 ?k8 ?k9 ?kB ?_ ?c2 ?c3 ?c4 ?c5; (case kA => exact rfl); (case kF => exact rfl); (case kK => assumption); (case k1 => k_asm); (case k2 => k_asm); (case k3 => k_asm); (case k4 => k_asm); (case k5 => k_asm); (case k6 => k_is); (case k7 => k_is); (case k8 => ktr_room); (case k9 => exact BindsTo.of_eq rfl); (case c5 => decide); (case kB => exact locs rfl); (case c2 => exact rfl); (case c3 => exact rfl); (case c4 => exact rfl); k_whole; intro g' L' h' tk' FG' F' N' B' X' T'; (replace F' : Fr g' L' h' (fm [(Str.ofString "value", .str (S xs) ta)]) := F'); (try dsimp only); (try k_lift B'); (try k_fold))
  k_steps
  exact ret _ _ _ _ ⟨_, _, rfl, by assumption, rfl⟩ (by assumption) (by assumption)
end
end Mine

end

theorem Mine.fresh_Pure4 : True := by w_top off; trivial
section
open PySem PySem.W PySem.Spec PySem.Calls PyProof.Rows
namespace Mine
set_option maxRecDepth 100000

theorem hexOk_zero : hexOk 0 = false := by decide +kernel
theorem drop_at {xs : List Nat} {i c : Nat} {t : List Nat} (h : xs.drop i = c :: t) : i < xs.length ∧ xs.getD i 0 = c ∧ xs.drop (i + 1) = t := by
  have hlt : i < xs.length := by
    by_cases e : i < xs.length
    · exact e
    · rw [List.drop_of_length_le (by omega)] at h
      cases h
  rw [List.drop_eq_getElem_cons hlt] at h
  injection h with h1 h2
  exact ⟨hlt, by rw [List.getD_eq_getElem?_getD, List.getElem?_eq_getElem hlt]; exact h1, h2⟩
theorem drop_nil {xs : List Nat} {i : Nat} (h : xs.drop i = []) : ¬ i < xs.length := by
  intro hlt
  rw [List.drop_eq_getElem_cons hlt] at h
  cases h
def cntL : Nat → List Nat → Nat
  | 0, _ => 0
  | _ + 1, [] => 0
  | f + 1, c :: t => if hexOk c = true then cntL f t + 1 else 0
theorem getD_arr {xs : List Nat} {i : Nat} : xs.toArray.getD i 0 = xs.getD i 0 := by simp
theorem cnt_drop (xs : List Nat) : ∀ (f p : Nat), cntHex xs.toArray f p = cntL f (xs.drop p)
  | 0, _ => by cases h : xs.drop _ <;> rfl
  | f + 1, p => by
    unfold cntHex
    rw [getD_arr]
    cases h : xs.drop p with
    | nil =>
      have h1 := drop_nil h
      have h2 : xs.getD p 0 = 0 := by
        rw [List.getD_eq_getElem?_getD, List.getElem?_eq_none (by omega)]
        rfl
      rw [h2, hexOk_zero]
      rfl
    | cons c t =>
      obtain ⟨h1, h2, h3⟩ := drop_at h
      rw [h2, cnt_drop xs f (p + 1), h3]
      rfl
theorem cntL_min : ∀ (f : Nat) (t : List Nat), cntL (min f t.length) t = cntL f t
  | 0, t => by simp [cntL]
  | f + 1, [] => by simp [cntL]
  | f + 1, c :: t => by
    have e : min (f + 1) (c :: t).length = min f t.length + 1 := by rw [List.length_cons]; omega
    rw [e]
    unfold cntL
    rw [cntL_min f t]
theorem hexLen_drop {xs : List Nat} {i : Nat} : hexLen xs.toArray i = cntL 6 (xs.drop (i + 1)) := by
  unfold hexLen
  rw [cnt_drop, ← cntL_min 6 (xs.drop (i + 1))]
  congr 2
  simp
theorem cntL_digits : ∀ (ds r : List Nat) (f : Nat), (∀ c ∈ ds, hexOk c = true) → ds.length ≤ f → (ds.length = f ∨ r = [] ∨ ∃ c r', r = c :: r' ∧ hexOk c = false) → cntL f (ds ++ r) = ds.length
  | [], r, f, _, _, h => by
    rcases h with h | rfl | ⟨c, r', rfl, h⟩
    · have : f = 0 := by simpa using h.symm
      subst this; rfl
    · cases f <;> rfl
    · cases f with
      | zero => rfl
      | succ f => show (if hexOk c = true then _ else 0) = 0; rw [h]; rfl
  | d :: ds, r, 0, _, h, _ => by simp at h
  | d :: ds, r, f + 1, hd, h, h3 => by
    show (if hexOk d = true then cntL f (ds ++ r) + 1 else 0) = _
    rw [if_pos (hd d (.head _)), cntL_digits ds r f (fun c hc => hd c (.tail _ hc)) (by simpa using h) (h3.imp (fun e => by simpa using e) id)]
    rfl
def wsL : List Nat → Nat
  | [] => 0
  | [c] => if isWsC c = true then 1 else 0
  | c :: d :: _ => if c = 13 ∧ d = 10 then 2 else if isWsC c = true then 1 else 0
theorem ws_drop {xs : List Nat} {q : Nat} : wsLen xs.toArray q = wsL (xs.drop q) := by
  unfold wsLen
  rw [getD_arr, getD_arr]
  have hs : xs.toArray.size = xs.length := rfl
  rw [hs]
  cases h : xs.drop q with
  | nil =>
    have h1 := drop_nil h
    rw [if_neg (fun x => h1 x.1), if_neg (fun x => h1 x.1)]
    rfl
  | cons c t =>
    obtain ⟨h1, h2, h3⟩ := drop_at h
    rw [h2]
    cases t with
    | nil =>
      have h4 := drop_nil h3
      rw [if_neg (fun x => h4 x.2.2.1)]
      show (if _ then _ else _) = if isWsC c = true then 1 else 0
      by_cases e : isWsC c = true
      · rw [if_pos ⟨h1, e⟩, if_pos e]
      · rw [if_neg (fun x => e x.2), if_neg e]
    | cons d r =>
      obtain ⟨h4, h5, h6⟩ := drop_at h3
      rw [h5]
      show _ = if c = 13 ∧ d = 10 then 2 else if isWsC c = true then 1 else 0
      by_cases e : c = 13 ∧ d = 10
      · rw [if_pos ⟨h1, e.1, h4, e.2⟩, if_pos e]
      · rw [if_neg (fun x => e ⟨x.2.1, x.2.2.2⟩), if_neg e]
        by_cases e2 : isWsC c = true
        · rw [if_pos ⟨h1, e2⟩, if_pos e2]
        · rw [if_neg (fun x => e2 x.2), if_neg e2]
theorem step_other {xs : List Nat} {i c : Nat} {t ys : List Nat} (h : xs.drop i = c :: t) (hc : c ≠ 92) (r : SubU xs (i + 1) ys) : SubU xs i (c :: ys) := by
  obtain ⟨h1, h2, h3⟩ := drop_at h
  have := SubU.miss h1 (fun x => hc (by rw [← h2]; exact x.2.1)) r
  rwa [h2] at this
theorem step_bs {xs : List Nat} {i : Nat} {t ys : List Nat} (h : xs.drop i = 92 :: t) (hc : t = [] ∨ ∃ c t', t = c :: t' ∧ hexOk c = false) (r : SubU xs (i + 1) ys) : SubU xs i (92 :: ys) := by
  obtain ⟨h1, h2, h3⟩ := drop_at h
  have hx : hexLen xs.toArray i = 0 := by
    rw [hexLen_drop, h3]
    exact cntL_digits [] t 6 (fun _ h => nomatch h) (by decide) (.inr hc)
  have := SubU.miss h1 (fun x => by have := x.2.2; omega) r
  rwa [h2] at this
theorem step_num {xs : List Nat} {i : Nat} {ds e r ys : List Nat} (h : xs.drop i = 92 :: (ds ++ (e ++ r))) (hne : ds ≠ []) (h6 : ds.length ≤ 6) (hh : ∀ c ∈ ds, hexOk c = true)
    (hn : ds.length = 6 ∨ e ++ r = [] ∨ ∃ c r', e ++ r = c :: r' ∧ hexOk c = false) (hw : wsL (e ++ r) = e.length) (hr : SubU xs (i + (1 + ds.length + e.length)) ys) : SubU xs i (meantC (hexN ds : Int) :: ys) := by
  obtain ⟨h1, h2, h3⟩ := drop_at h
  have hx : hexLen xs.toArray i = ds.length := by rw [hexLen_drop, h3]; exact cntL_digits ds (e ++ r) 6 hh h6 hn
  have hd : xs.drop (i + 1 + ds.length) = e ++ r := by rw [← List.drop_drop, h3]; simp
  have hl : ds.length ≠ 0 := fun x => hne (List.eq_nil_of_length_eq_zero x)
  have hlen : xs.length = i + (1 + (ds.length + (e ++ r).length)) := by
    have := congrArg List.length h
    simp at this
    simp
    omega
  have hM : IsM xs i := ⟨by rw [hlen]; omega, h2, by rw [hx]; omega⟩
  have hg : grp xs i = ds := by
    unfold grp
    rw [hx, h3]
    simp
  have hnx : nxt xs i = i + (1 + ds.length + e.length) := by
    unfold nxt
    rw [hx, ws_drop, hd, hw]
    omega
  have := SubU.hit h1 hM (by rw [hnx]; exact hr)
  rwa [hg] at this
theorem hexN_eq : ∀ (ds : List Nat) (a : Nat), (∀ c ∈ ds, hexCU c) → ((ds.foldl (fun acc c => acc * 16 + digN c) a : Nat) : Int) = (a : Int) * 16 ^ ds.length + hexVU ds
  | [], a, _ => by simp [hexVU]
  | c :: ds, a, h => by
    rw [List.foldl_cons, hexN_eq ds _ fun d hd => h d (.tail _ hd)]
    have e : ((digN c : Nat) : Int) = digU c := by
      have := h c (.head _)
      unfold hexCU at this
      unfold digN digU
      rcases this with h | h | h
      · rw [if_pos (by omega), if_pos (by omega)]; omega
      · rw [if_neg (by omega), if_neg (by omega), if_neg (by omega), if_neg (by omega)]; omega
      · rw [if_neg (by omega), if_pos (by omega), if_neg (by omega), if_pos (by omega)]; omega
    show _ = (a : Int) * 16 ^ (ds.length + 1) + (digU c * 16 ^ ds.length + hexVU ds)
    rw [Int.natCast_add, Int.natCast_mul, e, Int.pow_succ, Int.add_mul]
    have e2 : (a : Int) * ((16 : Nat) : Int) * 16 ^ ds.length = (a : Int) * (16 ^ ds.length * 16) := by
      rw [Int.mul_assoc, Int.mul_comm ((16 : Nat) : Int)]
      rfl
    rw [e2]
    omega
theorem hexN_hexVU {ds : List Nat} (h : ∀ c ∈ ds, hexCU c) : (hexN ds : Int) = hexVU ds := by
  have := hexN_eq ds 0 h
  simpa [hexN] using this
theorem hexCU_ok {c : Nat} (h : hexCU c) : hexOk c = true := by
  have key : ∀ c, c < 103 → ((48 ≤ c ∧ c ≤ 57) ∨ (97 ≤ c ∧ c ≤ 102) ∨ (65 ≤ c ∧ c ≤ 70)) → hexOk c = true := by decide +kernel
  exact key c (by unfold hexCU at h; omega) h
theorem plain_facts : ∀ x ∈ plainT, ∀ c ∈ x, c ≠ 92 ∧ c ≠ 10 ∧ isWsC c = false ∧ (hexOk c = true → isFig [c] = true) ∧ (hexOk c = true → (48 ≤ c ∧ c ≤ 57) ∨ (97 ≤ c ∧ c ≤ 102) ∨ (65 ≤ c ∧ c ≤ 70)) := by decide +kernel
theorem sign_facts : ∀ x ∈ signT, ∀ c ∈ x, c ≠ 10 ∧ hexOk c = false := by decide +kernel
theorem end_facts : ∀ x ∈ endT, x.length ≤ 2 ∧ (∀ c ∈ x, hexOk c = false) ∧ (∀ c, c ≠ 10 → isWsC c = false → ∀ r, wsL (x ++ c :: r) = x.length) ∧ wsL (x ++ []) = x.length := by
  intro x hx
  simp only [endT, List.mem_cons, List.not_mem_nil, or_false] at hx
  rcases hx with rfl | rfl | rfl | rfl | rfl | rfl | rfl
  all_goals refine ⟨by decide, by decide +kernel, ?_, by decide +kernel⟩
  all_goals intro c hc hw r
  · cases r with
    | nil => show (if isWsC c = true then 1 else 0) = 0; rw [hw]; rfl
    | cons d r =>
      show (if c = 13 ∧ d = 10 then 2 else if isWsC c = true then 1 else 0) = 0
      have h13 : c ≠ 13 := by
        rintro rfl
        exact absurd hw (by decide +kernel)
      rw [if_neg (fun x => h13 x.1), hw]
      rfl
  all_goals first
    | rfl
    | (show (if _ ∧ _ then 2 else if _ then 1 else 0) = _
       first
         | (rw [if_neg (fun x => absurd x.1 (by decide))]; rfl)
         | (rw [if_neg (fun x => hc x.2)]; rfl)
         | rfl)
/-- the pieces, unit by unit -/
inductive Chain : U → List U → List (List Nat × List Nat × List Nat) → Prop
  | nil (bf : U) : Chain bf [] []
  | cons {bf u : U} {us : List U} {p : List Nat × List Nat × List Nat} {ps : List (List Nat × List Nat × List Nat)} : pieceOf bf u (us.headD noU) = some p → Chain u us ps → Chain bf (u :: us) (p :: ps)
theorem chain_of {us : List U} {ps : List (List Nat × List Nat × List Nat)} (hl : ps.length = us.length) (h : ∀ j, j < us.length → pieceOf (befOf us j) (uAt us j) (uAt us (j + 1)) = some (ps.getD j ([], [], []))) : Chain (befOf us 0) us ps := by
  have key : ∀ k j, j + k = us.length → Chain (befOf us j) (us.drop j) (ps.drop j) := by
    intro k
    induction k with
    | zero =>
      intro j hj
      rw [List.drop_of_length_le (by omega), List.drop_of_length_le (by omega)]
      exact .nil _
    | succ k ih =>
      intro j hj
      have hlt : j < us.length := by omega
      have hlt2 : j < ps.length := by omega
      have h1 := ih (j + 1) (by omega)
      have h2 := h j hlt
      rw [List.drop_eq_getElem_cons hlt, List.drop_eq_getElem_cons hlt2]
      have e1 : uAt us j = us[j] := by simp [uAt, hlt]
      have e2 : (us.drop (j + 1)).headD noU = uAt us (j + 1) := by
        by_cases hj1 : j + 1 < us.length
        · rw [List.drop_eq_getElem_cons hj1]
          simp [uAt, hj1]
        · rw [List.drop_of_length_le (by omega)]
          have : us[j + 1]? = none := List.getElem?_eq_none (by omega)
          simp [uAt, this]
      have e3 : ps.getD j ([], [], []) = ps[j] := by simp [hlt2]
      have e4 : befOf us (j + 1) = us[j] := by simp [befOf, uAt, hlt]
      refine .cons ?_ ?_
      · rw [e2, ← e1, h2, e3]
      · rw [← e4]; exact h1
  exact key us.length 0 (by omega)
theorem piece_k0 {bf u af : U} {p : List Nat × List Nat × List Nat} (h : pieceOf bf u af = some p) (hk : u.k ≠ 1) : p = (u.a, u.b, u.c) ∧ ¬ (bf.k = 2 ∧ bf.c = [92] ∧ u.k = 0 ∧ isFig u.a = true) := by
  unfold pieceOf at h
  rw [if_neg hk] at h
  by_cases e : bf.k = 2 ∧ bf.c = [92] ∧ u.k = 0 ∧ isFig u.a = true
  · rw [if_pos e] at h; cases h
  · rw [if_neg e] at h
    injection h with h
    exact ⟨h.symm, e⟩
theorem piece_k1 {bf u af : U} {p : List Nat × List Nat × List Nat} (h : pieceOf bf u af = some p) (hk : u.k = 1) :
    (p = (92 :: (u.a ++ [32]), u.c, u.c)) ∨ (p = (92 :: (u.a ++ u.b), u.c, u.c) ∧ ¬ (u.b = [] ∧ u.a.length < 6 ∧ af.k = 0 ∧ isFig (af.a.take 1) = true)) := by
  unfold pieceOf at h
  rw [if_pos hk] at h
  by_cases e : u.b = [] ∧ u.a.length < 6 ∧ af.k = 0 ∧ isFig (af.a.take 1) = true
  · rw [if_pos e] at h
    injection h with h
    exact .inl h.symm
  · rw [if_neg e] at h
    injection h with h
    exact .inr ⟨h.symm, e⟩
/-- how the rest of a text begins -/
theorem chain_head {u : U} {us : List U} {ps : List (List Nat × List Nat × List Nat)} (h : Chain u us ps) (hu : ∀ v ∈ us, UnOk v.k v.a v.b v.c) :
    (ps.map (·.1)).flatten = [] ∨ ∃ c t, (ps.map (·.1)).flatten = c :: t ∧ isWsC c = false ∧ c ≠ 10 ∧ (hexOk c = true → (us.headD noU).k = 0 ∧ isFig ((us.headD noU).a.take 1) = true ∧ ¬ (u.k = 2 ∧ u.c = [92])) := by
  have h92 : isWsC 92 = false ∧ (92 : Nat) ≠ 10 ∧ hexOk 92 = false := by decide +kernel
  cases h with
  | nil => exact .inl rfl
  | @cons _ v us p ps hp hc =>
    right
    have hv := hu v (.head _)
    obtain ⟨k, a, b, c⟩ := v
    dsimp only at hv
    cases hv with
    | plain c hcT =>
      obtain ⟨e1, e2⟩ := piece_k0 hp (by simp)
      subst e1
      have f := plain_facts _ hcT c (.head _)
      refine ⟨c, (ps.map (·.1)).flatten, by simp, f.2.2.1, f.2.1, fun hx => ⟨rfl, f.2.2.2.1 hx, fun x => e2 ⟨x.1, x.2, rfl, f.2.2.2.1 hx⟩⟩⟩
    | esc c hcT =>
      obtain ⟨e1, e2⟩ := piece_k0 hp (by simp)
      subst e1
      exact ⟨92, c :: (ps.map (·.1)).flatten, by simp, h92.1, h92.2.1, fun hx => by rw [h92.2.2] at hx; cases hx⟩
    | num ds e n h1 h2 h3 h4 =>
      rcases piece_k1 hp rfl with e1 | ⟨e1, e2⟩ <;> subst e1
      · exact ⟨92, _, by simp; rfl, h92.1, h92.2.1, fun hx => by rw [h92.2.2] at hx; cases hx⟩
      · exact ⟨92, _, by simp; rfl, h92.1, h92.2.1, fun hx => by rw [h92.2.2] at hx; cases hx⟩
end Mine

end

theorem Mine.fresh_Pure5 : True := by w_top off; trivial
section
open PySem PySem.W PySem.Spec PySem.Calls PyProof.Rows
namespace Mine
set_option maxRecDepth 100000
theorem chain_U {bf : U} {us : List U} {ps : List (List Nat × List Nat × List Nat)} (h : Chain bf us ps) : (∀ v ∈ us, UnOk v.k v.a v.b v.c) → ∀ (xs : List Nat) (i : Nat), xs.drop i = (ps.map (·.1)).flatten → SubU xs i ((ps.map (·.2.1)).flatten) := by
  induction h with
  | nil bf => intro _ xs i hd; exact .done (drop_nil hd)
  | @cons bf v us p ps hp hc ih =>
    intro hu xs i hd
    have ih' := ih fun v hv => hu v (.tail _ hv)
    have hh := chain_head hc fun v hv => hu v (.tail _ hv)
    have hv := hu v (.head _)
    obtain ⟨k, ds, e, c⟩ := v
    dsimp only at hv
    cases hv with
    | plain c hcT =>
      obtain ⟨e1, e2⟩ := piece_k0 hp (by simp)
      subst e1
      have f := plain_facts _ hcT c (.head _)
      have hd0 : xs.drop i = c :: (ps.map (·.1)).flatten := hd
      exact step_other hd0 f.1 (ih' xs (i + 1) (drop_at hd0).2.2)
    | esc c hcT =>
      obtain ⟨e1, e2⟩ := piece_k0 hp (by simp)
      subst e1
      have f := sign_facts _ hcT c (.head _)
      have hd0 : xs.drop i = 92 :: c :: (ps.map (·.1)).flatten := hd
      have hd1 := (drop_at hd0).2.2
      have hd2 := (drop_at hd1).2.2
      have r := ih' xs (i + 1 + 1) hd2
      have inner : SubU xs (i + 1) (c :: (ps.map (·.2.1)).flatten) := by
        by_cases hc92 : c = 92
        · subst hc92
          refine step_bs hd1 ?_ r
          rcases hh with hh | ⟨d, t, hh, h1, h2, h3⟩
          · exact .inl hh
          · refine .inr ⟨d, t, hh, ?_⟩
            cases hx : hexOk d with
            | false => rfl
            | true => exact absurd ⟨rfl, rfl⟩ (h3 hx).2.2
        · exact step_other hd1 hc92 r
      exact step_bs hd0 (.inr ⟨c, _, rfl, f.2⟩) inner
    | num _ _ n h1 h2 h3 h4 =>
      have fe := end_facts e h2
      have hhx : ∀ c ∈ ds, hexOk c = true := fun c hc => hexCU_ok (h1.2.2.1 c hc)
      have hn : (hexN ds : Int) = n := (hexN_hexVU h1.2.2.1).trans h1.2.2.2
      rcases piece_k1 hp rfl with e1 | ⟨e1, e2⟩ <;> subst e1
      · have hd0 : xs.drop i = 92 :: (ds ++ ([32] ++ (ps.map (·.1)).flatten)) := by rw [hd]; simp
        have fe' := end_facts [32] (by decide)
        have hdn : xs.drop (i + (1 + ds.length + 1)) = (ps.map (·.1)).flatten := by
          rw [← List.drop_drop, hd0]
          simp [show 1 + ds.length + 1 = ds.length + 1 + 1 by omega]
        have := step_num (e := [32]) hd0 h1.1 h1.2.1 hhx (.inr (.inr ⟨32, _, rfl, by decide +kernel⟩)) (by
          rcases hh with hh | ⟨d, t, hh, g1, g2, g3⟩
          · rw [hh]; exact fe'.2.2.2
          · rw [hh]; exact fe'.2.2.1 d g2 g1 t) (ih' xs _ hdn)
        rw [hn] at this
        exact this
      · have hd0 : xs.drop i = 92 :: (ds ++ (e ++ (ps.map (·.1)).flatten)) := by rw [hd]; simp
        have hdn : xs.drop (i + (1 + ds.length + e.length)) = (ps.map (·.1)).flatten := by
          rw [← List.drop_drop, hd0, show 1 + ds.length + e.length = (ds.length + e.length) + 1 by omega, List.drop_succ_cons, ← List.drop_drop]
          simp
        have := step_num (e := e) hd0 h1.1 h1.2.1 hhx (by
          cases e with
          | cons c e => exact .inr (.inr ⟨c, _, rfl, fe.2.1 c (.head _)⟩)
          | nil =>
            by_cases h6 : ds.length = 6
            · exact .inl h6
            · right
              rcases hh with hh | ⟨d, t, hh, g1, g2, g3⟩
              · exact .inl hh
              · refine .inr ⟨d, t, hh, ?_⟩
                cases hx : hexOk d with
                | false => rfl
                | true => exact absurd ⟨rfl, (by have := h1.2.1; show ds.length < 6; omega), (g3 hx).1, (g3 hx).2.1⟩ e2) (by
          rcases hh with hh | ⟨d, t, hh, g1, g2, g3⟩
          · rw [hh]; exact fe.2.2.2
          · rw [hh]; exact fe.2.2.1 d g2 g1 t) (ih' xs _ hdn)
        rw [hn] at this
        exact this
end Mine

end

theorem Mine.fresh_Pure6 : True := by w_top off; trivial
section
open PySem PySem.W PySem.Spec PySem.Calls PyProof.Rows
namespace Mine
set_option maxRecDepth 100000
theorem meant_ne {n : Int} (h : n ≠ 92) : meantC n ≠ 92 := by
  unfold meantC
  split
  · decide
  · omega
theorem chain_S {bf : U} {us : List U} {ps : List (List Nat × List Nat × List Nat)} (h : Chain bf us ps) : (∀ v ∈ us, UnOk v.k v.a v.b v.c) →
    subS ((ps.map (·.2.1)).flatten) = (ps.map (·.2.2)).flatten ∧ (∀ c ∈ (ps.map (·.1)).flatten, hexOk c = true → hexCN c) ∧ (ps.map (·.1)).flatten.length ≤ 9 * us.length := by
  have h92 : hexOk 92 = false ∧ hexOk 32 = false := by decide +kernel
  induction h with
  | nil bf => intro _; exact ⟨rfl, (fun _ h => nomatch h), Nat.le_refl _⟩
  | @cons bf v us p ps hp hc ih =>
    intro hu
    obtain ⟨i1, i2, i3⟩ := ih fun v hv => hu v (.tail _ hv)
    have hv := hu v (.head _)
    obtain ⟨k, ds, e, c⟩ := v
    dsimp only at hv
    have split : ∀ (w : List Nat), (∀ c ∈ w, hexOk c = true → hexCN c) → ∀ c ∈ w ++ (ps.map (·.1)).flatten, hexOk c = true → hexCN c := fun w hw c hc => (List.mem_append.mp hc).elim (hw c) (i2 c)
    cases hv with
    | plain c hcT =>
      obtain ⟨e1, e2⟩ := piece_k0 hp (by simp)
      subst e1
      have f := plain_facts _ hcT c (.head _)
      refine ⟨?_, split [c] (fun d hd => by rw [List.mem_singleton.mp hd]; exact f.2.2.2.2), ?_⟩
      · show subS (c :: (ps.map (·.2.1)).flatten) = c :: (ps.map (·.2.2)).flatten
        rw [subS_keep (c := c) (r := (ps.map (·.2.1)).flatten) (fun x => f.1 x.1), i1]
      · show (c :: (ps.map (·.1)).flatten).length ≤ _
        simp only [List.length_cons]; omega
    | esc c hcT =>
      obtain ⟨e1, e2⟩ := piece_k0 hp (by simp)
      subst e1
      have f := sign_facts _ hcT c (.head _)
      refine ⟨?_, split [92, c] (fun d hd => ?_), ?_⟩
      · show subS (92 :: c :: (ps.map (·.2.1)).flatten) = c :: (ps.map (·.2.2)).flatten
        rw [subS_skip rfl f.1, i1]
      · intro hx
        rcases List.mem_cons.mp hd with rfl | hd
        · rw [h92.1] at hx; cases hx
        · rw [List.mem_singleton.mp hd, f.2] at hx; cases hx
      · show (92 :: c :: (ps.map (·.1)).flatten).length ≤ _
        simp only [List.length_cons]; omega
    | num _ _ n h1 h2 h3 h4 =>
      have fe := end_facts e h2
      have h6 := h1.2.1
      have h7 := fe.1
      have key : subS (meantC n :: (ps.map (·.2.1)).flatten) = meantC n :: (ps.map (·.2.2)).flatten := by
        rw [subS_keep (c := meantC n) (r := (ps.map (·.2.1)).flatten) (fun x => meant_ne h4 x.1), i1]
      have chars : ∀ (z : List Nat), (∀ c ∈ z, hexOk c = false) → ∀ c ∈ 92 :: (ds ++ z), hexOk c = true → hexCN c := by
        intro z hz c hc hx
        rcases List.mem_cons.mp hc with rfl | hc
        · rw [h92.1] at hx; cases hx
        · rcases List.mem_append.mp hc with hc | hc
          · have h9 := h1.2.2.1 c hc
            exact h9
          · rw [hz c hc] at hx; cases hx
      rcases piece_k1 hp rfl with e1 | ⟨e1, e2⟩ <;> subst e1
      · refine ⟨key, split (92 :: (ds ++ [32])) (chars [32] (fun c hc => by rw [List.mem_singleton.mp hc]; exact h92.2)), ?_⟩
        show ((92 :: (ds ++ [32])) ++ (ps.map (fun p : List Nat × List Nat × List Nat => p.1)).flatten).length ≤ _
        simp only [List.length_append, List.length_cons, List.length_nil]; omega
      · refine ⟨key, split (92 :: (ds ++ e)) (chars e fe.2.1), ?_⟩
        show ((92 :: (ds ++ e)) ++ (ps.map (fun p : List Nat × List Nat × List Nat => p.1)).flatten).length ≤ _
        simp only [List.length_append, List.length_cons, List.length_nil]; omega
theorem cnt_hex (t : Array Nat) : ∀ (f p j : Nat), j < cntHex t f p → hexOk (t.getD (p + j) 0) = true
  | 0, _, _, h => absurd h (Nat.not_lt_zero _)
  | f + 1, p, j, h => by
    unfold cntHex at h
    by_cases e : hexOk (t.getD p 0) = true
    · cases j with
      | zero => exact e
      | succ j =>
        rw [if_pos e] at h
        have := cnt_hex t f (p + 1) j (by omega)
        rw [show p + (j + 1) = p + 1 + j by omega]
        exact this
    · rw [if_neg e] at h
      exact absurd h (Nat.not_lt_zero _)
theorem allHex_of {xs : List Nat} (h : ∀ c ∈ xs, hexOk c = true → hexCN c) : AllHex xs := by
  intro i hM c hc
  obtain ⟨j, hj, e⟩ := List.mem_iff_getElem.mp hc
  have hj2 : j < hexLen xs.toArray i := by rw [← grp_len]; exact hj
  have h1 := cnt_hex xs.toArray _ (i + 1) j hj2
  have h3 := (hexLen_le xs.toArray i).2
  have h4 : xs.toArray.size = xs.length := rfl
  have hlt : i + 1 + j < xs.length := by omega
  have h2 : xs.toArray.getD (i + 1 + j) 0 = c := by
    rw [← e]
    simp [grp, hlt]
  rw [h2] at h1
  refine h c ?_ h1
  rw [← h2]
  simp [hlt]
theorem law_pieces {us : List U} {wr fi la : List Nat} (hu : ∀ u ∈ us, UnOk u.k u.a u.b u.c) (h8 : us.length ≤ 8) (hP : Pieces us us.length wr fi la) : SubU wr 0 fi ∧ subS fi = la ∧ AllHex wr ∧ wr.length ≤ 100000 := by
  obtain ⟨ps, h1, h2, rfl, rfl, rfl⟩ := hP
  have hc := chain_of h1 h2
  obtain ⟨e1, e2, e3⟩ := chain_S hc hu
  exact ⟨chain_U hc hu _ 0 rfl, e1, allHex_of e2, by omega⟩
end Mine

end

theorem Mine.fresh_LawA : True := by w_top off; trivial
section
open PySem PySem.W PySem.Spec PySem.Calls PyProof.Rows
namespace Mine
set_option maxRecDepth 100000
/-- the units made so far -/
def UnitsAt (os : List (Addr × Obj)) (ys : List Value) (us : List U) : Prop :=
  ∃ as : List Addr, ys = as.map Value.ref ∧ as.length = us.length ∧ ∀ (i : Nat) (a : Addr) (u : U), as[i]? = some a → us[i]? = some u → ∃ o, (a, o) ∈ os ∧ IsU o u
theorem UnitsAt.nil {os : List (Addr × Obj)} : UnitsAt os [] [] := ⟨[], rfl, rfl, fun i a u h => by simp at h⟩
theorem UnitsAt.mono {os led : List (Addr × Obj)} {ys : List Value} {us : List U} (h : UnitsAt os ys us) (hs : ∀ p ∈ os, p ∈ led) : UnitsAt led ys us := by
  obtain ⟨as, h1, h2, h3⟩ := h
  exact ⟨as, h1, h2, fun i a u ha hu => let ⟨o, ho, r⟩ := h3 i a u ha hu; ⟨o, hs _ ho, r⟩⟩
theorem UnitsAt.snoc {os : List (Addr × Obj)} {ys : List Value} {us : List U} {x : Addr} {o : Obj} {u : U} (h : UnitsAt os ys us) (hu : IsU o u) : UnitsAt ((x, o) :: os) (ys ++ [.ref x]) (us ++ [u]) := by
  obtain ⟨as, h1, h2, h3⟩ := h
  refine ⟨as ++ [x], by rw [h1]; simp, by simp [h2], ?_⟩
  intro i a v ha hv
  by_cases hi : i < as.length
  · rw [List.getElem?_append_left hi] at ha
    rw [List.getElem?_append_left (by omega)] at hv
    obtain ⟨o', ho, r⟩ := h3 i a v ha hv
    exact ⟨o', .tail _ ho, r⟩
  · by_cases he : i = as.length
    · subst he
      simp at ha
      rw [h2] at hv
      simp at hv
      subst ha hv
      exact ⟨o, .head _, hu⟩
    · rw [List.getElem?_eq_none (by simp; omega)] at ha
      cases ha
theorem UnitsAt.us {os : List (Addr × Obj)} {ys : List Value} {us : List U} {D : Addr} (h : UnitsAt os ys us) : UsAt ((D, LCg.lst ys) :: os) D us := by
  obtain ⟨as, h1, h2, h3⟩ := h
  subst h1
  exact ⟨as, _, .head _, h2, fun i a u ha hu => let ⟨o, ho, r⟩ := h3 i a u ha hu; ⟨o, .tail _ ho, r⟩⟩
theorem UnOk.ub {u : U} (h : UnOk u.k u.a u.b u.c) : UB u := by
  obtain ⟨k, a, b, c⟩ := u
  dsimp only at h
  unfold UB
  cases h with
  | plain c h => exact ⟨by simp, by simp, by simp⟩
  | esc c h => exact ⟨by simp, by simp, by simp⟩
  | num ds e n h1 h2 h3 h4 =>
    refine ⟨h1.2.1, ?_, by simp⟩
    have : ∀ e ∈ endT, e.length ≤ 6 := by decide
    exact this _ h2
theorem off3_of {I C D : Addr} {l : List (Addr × Obj)} {x : Addr} (h : ∀ p ∈ l, p.1 < x) (hI : (I, oI) ∈ l) (hC : (C, oC) ∈ l) (hD : (D, oD) ∈ l) : (@Ne Nat x I) ∧ (@Ne Nat x C) ∧ (@Ne Nat x D) :=
  ⟨Nat.ne_of_gt (h _ hI), Nat.ne_of_gt (h _ hC), Nat.ne_of_gt (h _ hD)⟩
theorem open2 {h₀ h : Heap} {L at_ c2 c1 : Addr} {a : Addr × Obj} {o o2 o1 : Obj} (N : News h₀ L h [a, (at_, o), (c2, o2), (c1, o1)]) (h2 : @LT.lt Nat _ c2 at_) (h1 : @LT.lt Nat _ c1 at_) :
    ∃ at' G, at' = at_ ∧ News h₀ L h ((at', o) :: G) ∧ (c2, o2) ∈ G ∧ (c1, o1) ∈ G ∧ ∀ p ∈ G, p.1 ≠ at' := by
  refine ⟨at_, [(c2, o2), (c1, o1)], rfl, News.perm N fun p hp => .tail _ hp, .head _, .tail _ (.head _), ?_⟩
  intro p hp
  rcases List.mem_cons.mp hp with rfl | hp
  · exact Nat.ne_of_lt h2
  · rw [List.mem_singleton.mp hp]; exact Nat.ne_of_lt h1
theorem open3 {h₀ h : Heap} {L at_ c2 c1 l : Addr} {a : Addr × Obj} {o o2 o1 ol : Obj} (N : News h₀ L h [a, (at_, o), (l, ol), (c2, o2), (c1, o1)]) (h3 : @LT.lt Nat _ l at_) (h2 : @LT.lt Nat _ c2 at_) (h1 : @LT.lt Nat _ c1 at_) :
    ∃ at' G, at' = at_ ∧ News h₀ L h ((at', o) :: G) ∧ (l, ol) ∈ G ∧ (c2, o2) ∈ G ∧ (c1, o1) ∈ G ∧ ∀ p ∈ G, p.1 ≠ at' := by
  refine ⟨at_, [(l, ol), (c2, o2), (c1, o1)], rfl, News.perm N fun p hp => .tail _ hp, .head _, .tail _ (.head _), .tail _ (.tail _ (.head _)), ?_⟩
  intro p hp
  rcases List.mem_cons.mp hp with rfl | hp
  · exact Nat.ne_of_lt h3
  · rcases List.mem_cons.mp hp with rfl | hp
    · exact Nat.ne_of_lt h2
    · rw [List.mem_singleton.mp hp]; exact Nat.ne_of_lt h1
theorem open_turn {h₀ h : Heap} {L at_ : Addr} {o o0 : Obj} {G own : List (Addr × Obj)} (N : News h₀ L h (((at_, o) :: G) ++ own)) (hoff : OwnOff own (List.map (·.1) ((at_, o0) :: G))) (hG : ∀ p ∈ G, p.1 ≠ at_) :
    ∃ G', News h₀ L h ((at_, o) :: G') ∧ (∀ p ∈ G, p ∈ G') ∧ (∀ p ∈ own, p ∈ G') ∧ ∀ p ∈ G', p.1 ≠ at_ := by
  refine ⟨G ++ own, N, fun p hp => List.mem_append_left _ hp, fun p hp => List.mem_append_right _ hp, ?_⟩
  intro p hp
  rcases List.mem_append.mp hp with hp | hp
  · exact hG p hp
  · exact hoff p hp at_ (.head _)
theorem three {l : Addr} {G : List (Addr × Obj)} {a b c : Tok} (x : (l, W.listOf #[.int 3 a, .int 1 b, .int 2 c] 0) ∈ G) : ∃ vs, IntsAre vs [3, 1, 2] ∧ (l, W.listOf vs.toArray 0) ∈ G := ⟨[.int 3 a, .int 1 b, .int 2 c], .cons 3 _ (.cons 1 _ (.cons 2 _ .nil)), x⟩
theorem or_mono {h : Heap} {l : Addr} {vs : List Value} {G G' : List (Addr × Obj)} (x : h.IsList l vs.toArray ∨ (l, W.listOf vs.toArray 0) ∈ G) (hs : ∀ p ∈ G, p ∈ G') : h.IsList l vs.toArray ∨ (l, W.listOf vs.toArray 0) ∈ G' := x.imp id (hs _)
theorem range_nat {h : Heap} {r : Addr} {b c : Int} {t u v : Tok} (hr : IsRange h r 0 b 1 t u v) (h0 : 0 ≤ b) (h1 : b ≤ c) : ∃ n : Nat, b = n ∧ IsRange h r 0 (n : Int) 1 t u v ∧ (n : Int) ≤ c := by
  obtain ⟨n, rfl⟩ := Int.eq_ofNat_of_zero_le h0
  exact ⟨n, rfl, hr, h1⟩
theorem comp_turn {h₀ h : Heap} {L at_ I C D : Addr} {o oI oC oD : Obj} {Z : List (Addr × Obj)} (N : News h₀ L h ((I, oI) :: (C, oC) :: (D, oD) :: (at_, o) :: Z)) (off : LCg.Off3 I C D ((at_, o) :: Z)) (hz : ∀ p ∈ Z, p.1 ≠ at_) :
    ∃ R, News h₀ L h ((at_, o) :: R) ∧ (I, oI) ∈ R ∧ (C, oC) ∈ R ∧ (D, oD) ∈ R ∧ (∀ p ∈ Z, p ∈ R) ∧ ∀ p ∈ R, p.1 ≠ at_ := by
  refine ⟨(I, oI) :: (C, oC) :: (D, oD) :: Z, News.perm N ?_, .head _, .tail _ (.head _), .tail _ (.tail _ (.head _)), fun p hp => .tail _ (.tail _ (.tail _ hp)), ?_⟩
  · intro p hp
    rcases List.mem_cons.mp hp with rfl | hp
    · exact .tail _ (.tail _ (.tail _ (.head _)))
    · rcases List.mem_cons.mp hp with rfl | hp
      · exact .head _
      · rcases List.mem_cons.mp hp with rfl | hp
        · exact .tail _ (.head _)
        · rcases List.mem_cons.mp hp with rfl | hp
          · exact .tail _ (.tail _ (.head _))
          · exact .tail _ (.tail _ (.tail _ (.tail _ hp)))
  · intro p hp
    rcases List.mem_cons.mp hp with rfl | hp
    · exact Ne.symm off.1.1
    · rcases List.mem_cons.mp hp with rfl | hp
      · exact Ne.symm off.1.2.1
      · rcases List.mem_cons.mp hp with rfl | hp
        · exact Ne.symm off.1.2.2
        · exact hz p hp
theorem unit_end {h₀ h' : Heap} {L at_ I C D x : Addr} {m : Str → Option Value} {s₁ : Shared} {o o0 ok oI oC oD : Obj} {R Z : List (Addr × Obj)} {rest : Value → List (Addr × Obj) → Prop} {y : Value} {tk : Nat}
    (F : Fr h₀ L h' m) (N : News h₀ L h' ((x, o) :: (at_, ok) :: R)) (hI : (I, oI) ∈ R) (hC : (C, oC) ∈ R) (hD : (D, oD) ∈ R) (off : LCg.Off3 I C D ((at_, o0) :: Z)) (hx : ∀ p ∈ R, p.1 < x) (hR : ∀ p ∈ Z, p ∈ R) (r : rest y ((at_, ok) :: (x, o) :: Z)) :
    LCg.CompEnd h₀ L m s₁ I oI C oC D oD (fun _ => True) rest y { s₁ with heap := h', toks := tk } := by
  refine LCg.CompEnd.intro F N ((at_, ok) :: (x, o) :: Z) ?_ ⟨off.1, ⟨Nat.ne_of_gt (hx _ hI), Nat.ne_of_gt (hx _ hC), Nat.ne_of_gt (hx _ hD)⟩, off.2⟩ trivial r
  intro p hp
  rcases List.mem_cons.mp hp with rfl | hp
  · exact .tail _ (.tail _ hI)
  · rcases List.mem_cons.mp hp with rfl | hp
    · exact .tail _ (.tail _ hC)
    · rcases List.mem_cons.mp hp with rfl | hp
      · exact .tail _ (.tail _ hD)
      · rcases List.mem_cons.mp hp with rfl | hp
        · exact .tail _ (.head _)
        · rcases List.mem_cons.mp hp with rfl | hp
          · exact .head _
          · exact .tail _ (.tail _ (hR _ hp))
theorem all_snoc {P : U → Prop} {us : List U} {u : U} (h : ∀ v ∈ us, P v) (hu : P u) : ∀ v ∈ us ++ [u], P v := by
  intro v hv
  rcases List.mem_append.mp hv with hv | hv
  · exact h v hv
  · rw [List.mem_singleton.mp hv]; exact hu
theorem ne_cons {os : List (Addr × Obj)} {at_ x : Addr} {o : Obj} (h : ∀ p ∈ os, p.1 ≠ at_) (hx : at_ < x) : ∀ p ∈ (x, o) :: os, p.1 ≠ at_ := by
  intro p hp
  rcases List.mem_cons.mp hp with rfl | hp
  · exact Nat.ne_of_gt hx
  · exact h p hp
theorem ne_app {os G : List (Addr × Obj)} {at_ : Addr} (h : ∀ p ∈ os, p.1 ≠ at_) (hG : ∀ p ∈ G, p.1 ≠ at_) : ∀ p ∈ os ++ G, p.1 ≠ at_ := by
  intro p hp
  rcases List.mem_append.mp hp with hp | hp
  · exact h p hp
  · exact hG p hp
theorem tm0 {G G' os : List (Addr × Obj)} {q p : Addr × Obj} (h : ∀ p ∈ G, p ∈ G') (hp : p ∈ q :: G) : p ∈ q :: (os ++ G') := by
  rcases List.mem_cons.mp hp with rfl | hp
  · exact .head _
  · exact .tail _ (List.mem_append_right _ (h _ hp))
theorem tm1 {own G' os : List (Addr × Obj)} {q p : Addr × Obj} (h : ∀ p ∈ own, p ∈ G') (hp : p ∈ own) : p ∈ q :: (os ++ G') := .tail _ (List.mem_append_right _ (h _ hp))
structure Due (xs f : List Nat) : Prop where
  out : SubU xs 0 f
structure Mark : Prop where
theorem or_list {h : Heap} {l : Addr} {vs : List Value} {G : List (Addr × Obj)} (x : h.IsList l vs.toArray) : h.IsList l vs.toArray ∨ (l, W.listOf vs.toArray 0) ∈ G := .inl x
theorem or_mem {h₀ h : Heap} {L : Addr} {news : List (Addr × Obj)} {l : Addr} {vs : List Value} {G : List (Addr × Obj)} (_ : News h₀ L h news) (x : (l, W.listOf vs.toArray 0) ∈ G) : h₀.IsList l vs.toArray ∨ (l, W.listOf vs.toArray 0) ∈ G := .inr x
section
variable {prog : Program} {w : World} {A : Around} {E : Value → Shared → Prop} {s : Shared}
theorem s_ne_self {x : Str} {t u : Tok} {Q : Value → Shared → Prop} (h : Q (.bool false) s) : wpAny (model prog w) A (compareOp .NotEq (.str x t) (.str x u)) Q E s :=
  P.ne_str (by simpa using h)
end
end Mine

end

theorem Mine.fresh_LawB : True := by w_top off; trivial
section
open PySem PySem.W PySem.Spec PySem.Calls PyProof.Rows
namespace Mine
set_option maxRecDepth 100000

def PieceOk (w d : List Nat) : Prop := w.length ≤ 2 ∧ d.length ≤ 2 ∧ ∀ r, subS (w ++ r) = d ++ subS r
theorem piece_one {c : Nat} (h : c ≠ 92) : PieceOk [c] [c] := ⟨by simp, by simp, fun r => subS_keep fun x => h x.1⟩
theorem piece_two {c : Nat} (h : c ≠ 10) : PieceOk [92, c] [c] := ⟨by simp, by simp, fun r => subS_skip rfl h⟩
theorem piece_nl : PieceOk [92, 10] [92, 10] := ⟨by simp, by simp, fun r => by
  show subS (92 :: 10 :: r) = 92 :: 10 :: subS r
  rw [subS_keep (fun x => x.2.2 rfl), subS_keep (fun x => absurd x.1 (by decide))]⟩
def PieceAt (h : Heap) (a : Addr) (w d : List Nat) : Prop := ∃ x y t t', IsTup h a #[.str x t, .str y t'] ∧ x = S w ∧ y = S d
structure PieceIs (h : Heap) (a : Addr) (w d : List Nat) : Prop where
  out : PieceAt h a w d
section
variable {prog : Program} {w : World} {A : Around} {E : Value → Shared → Prop} {s : Shared} {h₀ : Heap} {L : Addr} {m : Str → Option Value} {K : Frag} {value slice : PySem.Expr} {l : Addr} {i : Int} {u : Tok} {items : Array Value} {n : Nat} {od : Option Addr} {sl : Array (Option Value)} {Q : Value → Shared → Prop}
theorem tab_ref {refs : List Addr} (F : Fr h₀ L s.heap m) (X : K.In h₀) (ho : K.lookup l = some ⟨.type "tuple", od, .seq items n, sl⟩) (hok : items = (refs.map Value.ref).toArray) (hlen : refs.length < 100) (h0 : 0 ≤ i) (h1 : i < refs.length)
    (h : ∀ a, a ∈ refs → Q (.ref a) s)
    (hs : subscripted slice false (.ref l) (.int i u) = operate [.ref l, .int i u] (getItem (.ref l) (.int i u)) := by with_unfolding_all rfl) (hg : ∀ r, letTemporaryGo value (.ref l) r = pure () := by intro _; with_unfolding_all rfl) :
    wpAny (model prog w) A (subscriptTail value slice (.ref l) (.int i u)) Q E s := by
  subst hok
  have hlt : i.toNat < refs.length := by omega
  refine item_tuple (j := i.toNat) (x := .ref refs[i.toNat]) ⟨_, F.keep _ _ (X _ _ ho), rfl, n, rfl⟩ (by omega) (by omega) ?_ (by simp [hlt]) (h _ (List.getElem_mem hlt)) hs hg
  unfold PySem.seqIndex?
  have hn : ¬ i < 0 := by omega
  simp [hn, h0]
  omega
theorem piece_0 {a : Addr} {wr du : List Nat} (F : Fr h₀ L s.heap m) (H : PieceIs h₀ a wr du) (h : ∀ t, Q (.str (S wr) t) s)
    (hs : subscripted slice false (.ref a) (.int 0 u) = operate [.ref a, .int 0 u] (getItem (.ref a) (.int 0 u)) := by with_unfolding_all rfl) (hg : ∀ r, letTemporaryGo value (.ref a) r = pure () := by intro _; with_unfolding_all rfl) :
    wpAny (model prog w) A (subscriptTail value slice (.ref a) (.int 0 u)) Q E s := by
  obtain ⟨x, y, t, t', ⟨o, ho, hc, n, hd⟩, rfl, rfl⟩ := H.out
  exact item_tuple (j := 0) ⟨o, F.keep _ _ ho, hc, n, hd⟩ (by decide) (by decide) rfl rfl (h _) hs hg
theorem piece_1 {a : Addr} {wr du : List Nat} (F : Fr h₀ L s.heap m) (H : PieceIs h₀ a wr du) (h : ∀ t, Q (.str (S du) t) s)
    (hs : subscripted slice false (.ref a) (.int 1 u) = operate [.ref a, .int 1 u] (getItem (.ref a) (.int 1 u)) := by with_unfolding_all rfl) (hg : ∀ r, letTemporaryGo value (.ref a) r = pure () := by intro _; with_unfolding_all rfl) :
    wpAny (model prog w) A (subscriptTail value slice (.ref a) (.int 1 u)) Q E s := by
  obtain ⟨x, y, t, t', ⟨o, ho, hc, n, hd⟩, rfl, rfl⟩ := H.out
  exact item_tuple (j := 1) ⟨o, F.keep _ _ ho, hc, n, hd⟩ (by decide) (by decide) rfl rfl (h _) hs hg
theorem call_eq {f : Value} {x y : Str} {t : Tok} (e : x = y) (h : wpAny (model prog w) A (call f [.str y t]) Q E s) : wpAny (model prog w) A (call f [.str x t]) Q E s := e ▸ h
theorem s_ne_lit {x : Str} {a : List Nat} {t u : Tok} (e : x = S a) (h : Q (.bool false) s) : wpAny (model prog w) A (compareOp .NotEq (.str (S a) t) (.str x u)) Q E s := by
  subst e
  exact s_ne_self h
theorem s_eq_by {a b : List Nat} {t u : Tok} (e : a = b) (h : Q (.bool true) s) : wpAny (model prog w) A (compareOp .Eq (.str (S a) t) (.str (S b) u)) Q E s := by
  subst e
  exact s_eq rfl rfl (by simpa using h)
end
structure AllPieces (h : Heap) : Prop where
  out : ∀ a ∈ ([69, 70, 71, 72, 73, 74, 75, 76, 77, 78] : List Addr), ∃ w d, PieceIs h a w d ∧ PieceOk w d
theorem piece_of {K : Frag} {h : Heap} {a : Addr} {x y : Str} {t t' : Tok} {od : Option Addr} {n : Nat} {sl : Array (Option Value)} {w d : List Nat} (X : K.In h) (ho : K.lookup a = some ⟨.type "tuple", od, .seq #[.str x t, .str y t'] n, sl⟩) (hx : x = S w) (hy : y = S d) (hp : PieceOk w d) : ∃ w d, PieceIs h a w d ∧ PieceOk w d :=
  ⟨w, d, ⟨x, y, t, t', ⟨_, X _ _ ho, rfl, n, rfl⟩, hx, hy⟩, hp⟩
theorem all_pieces {h : Heap} (e0 : ∃ w d, PieceIs h 69 w d ∧ PieceOk w d) (e1 : ∃ w d, PieceIs h 70 w d ∧ PieceOk w d) (e2 : ∃ w d, PieceIs h 71 w d ∧ PieceOk w d) (e3 : ∃ w d, PieceIs h 72 w d ∧ PieceOk w d) (e4 : ∃ w d, PieceIs h 73 w d ∧ PieceOk w d)
    (e5 : ∃ w d, PieceIs h 74 w d ∧ PieceOk w d) (e6 : ∃ w d, PieceIs h 75 w d ∧ PieceOk w d) (e7 : ∃ w d, PieceIs h 76 w d ∧ PieceOk w d) (e8 : ∃ w d, PieceIs h 77 w d ∧ PieceOk w d) (e9 : ∃ w d, PieceIs h 78 w d ∧ PieceOk w d) : AllPieces h := by
  refine ⟨fun a ha => ?_⟩
  simp only [List.mem_cons, List.not_mem_nil, or_false] at ha
  rcases ha with rfl | rfl | rfl | rfl | rfl | rfl | rfl | rfl | rfl | rfl <;> assumption
theorem tm2 {G G' : List (Addr × Obj)} {q d : Addr × Obj} (h : ∀ p ∈ G, p ∈ G') : ∀ p ∈ q :: G, p ∈ d :: q :: G' := by
  intro p hp
  rcases List.mem_cons.mp hp with rfl | hp
  · exact .tail _ (.head _)
  · exact .tail _ (.tail _ (h _ hp))
theorem tm3 {own G' : List (Addr × Obj)} {q d : Addr × Obj} (h : ∀ p ∈ own, p ∈ G') : ∀ p ∈ own, p ∈ d :: q :: G' := fun p hp => .tail _ (.tail _ (h _ hp))
/-- pieces so far -/
structure Sofar (wr du : List Nat) : Prop where
  out : ∀ r, subS (wr ++ r) = du ++ subS r
theorem Sofar.nil : Sofar [] [] := ⟨fun _ => rfl⟩
theorem Sofar.snoc {wr du w d : List Nat} (h : Sofar wr du) (hp : PieceOk w d) : Sofar (wr ++ w) (du ++ d) := ⟨fun r => by rw [List.append_assoc, h.out, hp.2.2, List.append_assoc]⟩
theorem Sofar.fin {wr du : List Nat} (h : Sofar wr du) : subS wr = du := by
  have := h.out []
  simpa [subS] using this
theorem Sofar.fin_bs {wr du : List Nat} (h : Sofar wr du) : subS (wr ++ [92]) = du ++ [92] := by
  rw [h.out]
  rfl
def l411 : List Nat := [92, 48, 48, 48, 48, 52, 49, 49]
def l1234 : List Nat := [92, 49, 50, 51, 52, 53, 54, 55, 120]
theorem all_411 : AllHex l411 := allHex_of (show ∀ c ∈ l411, hexOk c = true → (48 ≤ c ∧ c ≤ 57) ∨ (97 ≤ c ∧ c ≤ 102) ∨ (65 ≤ c ∧ c ≤ 70) by decide +kernel)
theorem all_1234 : AllHex l1234 := allHex_of (show ∀ c ∈ l1234, hexOk c = true → (48 ≤ c ∧ c ≤ 57) ∨ (97 ≤ c ∧ c ≤ 102) ∨ (65 ≤ c ∧ c ≤ 70) by decide +kernel)
theorem lit_411 : Str.ofString "\\0000411" = S l411 := by decide +kernel
theorem lit_1234 : Str.ofString "\\1234567x" = S l1234 := by decide +kernel
theorem lit_A1 : Str.ofString "A1" = S [65, 49] := by decide +kernel
theorem lit_FF7x : Str.ofString "\uFFFD7x" = S (subS [65533, 55, 120]) := by decide +kernel
theorem due_411 : Due l411 [65, 49] := by
  have h8 : SubU l411 8 [] := .done (by decide)
  have h7 : SubU l411 7 [49] := .miss (by decide) (fun h => absurd h.1 (by decide)) h8
  have e1 : nxt l411 0 = 7 := by decide +kernel
  have e2 : meantC (hexN (grp l411 0) : Int) = 65 := by decide +kernel
  have hM : IsM l411 0 := ⟨by decide, by decide, by decide +kernel⟩
  have h := SubU.hit (xs := l411) (i := 0) (ys := [49]) (by decide) hM (by rw [e1]; exact h7)
  rw [e2] at h
  exact ⟨h⟩
theorem due_1234 : Due l1234 [65533, 55, 120] := by
  have h9 : SubU l1234 9 [] := .done (by decide)
  have h8 : SubU l1234 8 [120] := .miss (by decide) (fun h => absurd h.1 (by decide)) h9
  have h7 : SubU l1234 7 [55, 120] := .miss (by decide) (fun h => absurd h.2.1 (by decide)) h8
  have e1 : nxt l1234 0 = 7 := by decide +kernel
  have e2 : meantC (hexN (grp l1234 0) : Int) = 65533 := by decide +kernel
  have hM : IsM l1234 0 := ⟨by decide, by decide, by decide +kernel⟩
  have h := SubU.hit (xs := l1234) (i := 0) (ys := [55, 120]) (by decide) hM (by rw [e1]; exact h7)
  rw [e2] at h
  exact ⟨h⟩
end Mine

end

theorem Mine.fresh_Law1 : True := by w_top off; trivial
section
open PySem PySem.W PySem.Spec PySem.Calls PyProof.Rows
namespace Mine
section
local macro_rules | `(tactic| walk_at "exec For Name Call cons nil") => `(tactic| ((fail_if_success (with_reducible rename Mark => fm9)); refine Stop.at ?_))
local macro_rules | `(tactic| k_mem) => `(tactic| first | exact List.Mem.head _ | assumption | (refine List.Mem.tail _ ?_; k_mem))
local macro_rules | `(tactic| walk_at "eval Name") => `(tactic| (k_here; (with_reducible show wpAny _ _ (eval (PySem.Expr.Name (Str.ofString "told") _) (envOfC _ _ _ _ _)) _ _ _); k_dflt (refine' nameX_C ?zN ?zc ?zm ?zd ?_ ?za ?zb; (case za => rfl); (case zb => rfl); (case zN => k_asm); (case zc => rfl); (case zm => k_mem); (case zd => k_asm); k_whole)))
local macro_rules | `(tactic| walk_at "eval Name") => `(tactic| (k_here; (with_reducible show wpAny _ _ (eval (PySem.Expr.Name (Str.ofString "at") _) (envOfC _ _ _ _ _)) _ _ _); k_dflt (refine' nameX_C ?zN ?zc ?zm ?zd ?_ ?za ?zb; (case za => rfl); (case zb => rfl); (case zN => k_asm); (case zc => rfl); (case zm => k_mem); (case zd => k_asm); k_whole)))
local macro_rules | `(tactic| walk_at "eval Name") => `(tactic| (k_here; (with_reducible show wpAny _ _ (eval (PySem.Expr.Name (Str.ofString "told") _) (compEnvC _ _ _ _)) _ _ _); k_dflt (refine' lcf_free ?zN ?zc ?zm ?zd ?_ ?za ?zb; (case za => rfl); (case zb => rfl); (case zN => k_asm); (case zc => rfl); (case zm => k_mem); (case zd => k_asm); k_whole)))
local macro_rules | `(tactic| walk_at "eval Name") => `(tactic| (k_here; (with_reducible show wpAny _ _ (eval (PySem.Expr.Name (Str.ofString "at") _) (compEnvC _ _ _ _)) _ _ _); k_dflt (refine' lcf_free ?zN ?zc ?zm ?zd ?_ ?za ?zb; (case za => rfl); (case zb => rfl); (case zN => k_asm); (case zc => rfl); (case zm => k_mem); (case zd => k_asm); k_whole)))
local macro_rules | `(tactic| walk_at "pyIter ref") => `(tactic| (refine Stop.at ?_))
local macro_rules | `(tactic| walk_at "CompSrc") => `(tactic| (refine Stop.at ?_))
local macro_rules | `(tactic| walk_at "CompEnd") => `(tactic| (refine Stop.at ?_))
local macro_rules | `(tactic| walk_at "exec Assign cons ListComp") => `(tactic| (k_here; k_dflt (refine LCg.Assign_ListComp_U (F₀ := by k_asm) (by rfl) (by with_unfolding_all rfl) (by with_unfolding_all rfl) (by decide) (by rfl) (by decide) (by rfl) (by rfl) (by rfl) ?_)))
local macro_rules | `(tactic| walk_at "call ref") => `(tactic| (k_here; (with_reducible show wpAny _ _ (call (Value.ref 86) _) _ _ _); k_dflt (refine' Con.use (drawn0 ?hne ?hi ?hl0 ?hl1 ?hk0 ?hk1 ?hb0 ?hb1) ?B ?F ?X ?N ?T ?hk ?hp ?hd ?hu ?_; (case B => k_asm); (case F => k_asm); (case X => k_asm); (case N => k_asm); (case T => k_asm); (case hne => with_reducible assumption); (case hi => with_reducible assumption); (case hl0 => with_reducible assumption); (case hl1 => with_reducible assumption); (case hk0 => omega); (case hk1 => omega); (case hb0 => omega); (case hb1 => omega); (case hk => first | exact rfl | with_reducible assumption); (case hp => first | exact trivial | with_reducible assumption | assumption); (case hd => ktr_room); (case hu => ktr_units)); (rintro _ _ _ _ ⟨r, t1, t2, hv, hr0, hr1, hn⟩ _ _); subst hv; subst hn; (try dsimp only); (try k_fold)))
local macro_rules | `(tactic| walk_at "call ref") => `(tactic| (k_here; (with_reducible show wpAny _ _ (call (Value.ref 112) _) _ _ _); k_dflt (refine' Con.use (unit0 ?hne ?hi ?hl0 ?hl1 ?hk0 ?hk1) ?B ?F ?X ?N ?T ?hk ?hp ?hd ?hu ?_; (case B => k_asm); (case F => k_asm); (case X => k_asm); (case N => k_asm); (case T => k_asm); (case hne => with_reducible assumption); (case hi => with_reducible assumption); (case hl0 => with_reducible assumption); (case hl1 => with_reducible assumption); (case hk0 => omega); (case hk1 => omega); (case hk => first | exact rfl | with_reducible assumption); (case hp => first | exact trivial | with_reducible assumption | assumption); (case hd => ktr_room); (case hu => ktr_units)); (rintro _ _ _ _ ⟨x, o, k1, t1, kk, ua, ub, uc, hv, hn, hUn, hUo, hxl, hxa, hk1, hk2⟩ _ _); subst hv; subst hn; (try dsimp only); (try k_fold)))
local macro_rules | `(tactic| walk_at "call ref") => `(tactic| (k_here; (with_reducible show wpAny _ _ (call (Value.ref 119) _) _ _ _); k_dflt (refine' Con.use (text0 ?hU ?h8 ?hB) ?B ?F ?X ?N ?T ?hk ?hp ?hd ?hu ?_; (case B => k_asm); (case F => k_asm); (case X => k_asm); (case N => k_asm); (case T => k_asm); (case hU => with_reducible assumption); (case h8 => with_reducible assumption); (case hB => with_reducible assumption); (case hk => first | exact rfl | with_reducible assumption); (case hp => first | exact trivial | with_reducible assumption | assumption); (case hd => ktr_room); (case hu => ktr_units)); (rintro _ _ _ _ (⟨hv, hn⟩ | ⟨x, t0, t1, t2, wr, fi, la, hv, hn, hxl, hPc⟩) _ _); all_goals (subst hv; subst hn); (try dsimp only); (try k_fold)))
local macro_rules | `(tactic| walk_at "storeName") => `(tactic| ((with_reducible rename Pieces _ _ _ _ _ => hPc); refine Stop.at ?_))
local macro_rules | `(tactic| walk_at "call ref") => `(tactic| (k_here; (with_reducible show wpAny _ _ (call (Value.ref 50) _) _ _ _); k_dflt (refine' Con.use (subU0 ?h0 ?h1) ?B ?F ?X ?N ?T ?hk ?hp ?hd ?hu ?_; (case B => k_asm); (case F => k_asm); (case X => k_asm); (case N => k_asm); (case T => k_asm); (case h0 => with_reducible assumption); (case h1 => with_reducible assumption); (case hk => first | exact rfl | with_reducible assumption); (case hp => first | exact trivial | with_reducible assumption | assumption); (case hd => ktr_room); (case hu => ktr_units)); (rintro _ _ _ _ ⟨ys, t1, hv, hS, hl9, hn⟩ _ _); subst hv; subst hn; (have hSe := SubU.eq hS (Due.out (by with_reducible assumption))); subst hSe; (try dsimp only); (try k_fold)))
local macro_rules | `(tactic| walk_at "call ref") => `(tactic| (k_here; (with_reducible show wpAny _ _ (call (Value.ref 64) _) _ _ _); k_dflt (refine' Con.use (unes0 ?h0 ?h1) ?B ?F ?X ?N ?T ?hk ?hp ?hd ?hu ?_; (case B => k_asm); (case F => k_asm); (case X => k_asm); (case N => k_asm); (case T => k_asm); (case h0 => with_reducible assumption); (case h1 => with_reducible assumption); (case hk => first | exact rfl | with_reducible assumption); (case hp => first | exact trivial | with_reducible assumption | assumption); (case hd => ktr_room); (case hu => ktr_units)); (rintro _ _ _ _ ⟨ys, t1, hv, hS, hn⟩ _ _); subst hv; subst hn; (have hSe := SubU.eq hS (Due.out (by with_reducible assumption))); subst hSe; (try dsimp only); (try k_fold)))
local macro_rules | `(tactic| walk_at "compareOp NotEq str str") => `(tactic| (refine s_ne_self ?_))
local macro_rules | `(tactic| walk_at "call ref") => `(tactic| (k_here; (with_reducible show wpAny _ _ (call (Value.ref 57) _) _ _ _); k_dflt (refine' Con.use (subS0 ?h0) ?B ?F ?X ?N ?T ?hk ?hp ?hd ?hu ?_; (case B => k_asm); (case F => k_asm); (case X => k_asm); (case N => k_asm); (case T => k_asm); (case h0 => first | omega | (simp only [List.length_append, List.length_cons, List.length_nil]; omega)); (case hk => first | exact rfl | with_reducible assumption); (case hp => first | exact trivial | with_reducible assumption | assumption); (case hd => ktr_room); (case hu => ktr_units)); (rintro _ _ _ _ ⟨t1, hv, hn⟩ _ _); subst hv; subst hn; (try dsimp only); (try k_fold)))
local macro_rules | `(tactic| walk_at "call ref") => `(tactic| ((with_reducible show wpAny _ _ (call (Value.ref 50) [Value.str (Str.ofString _) _]) _ _ _); refine call_eq lit_411 ?_))
local macro_rules | `(tactic| walk_at "call ref") => `(tactic| ((with_reducible show wpAny _ _ (call (Value.ref 64) [Value.str (Str.ofString _) _]) _ _ _); refine call_eq lit_1234 ?_))
local macro_rules | `(tactic| walk_at "compareOp NotEq str str") => `(tactic| (refine s_ne_lit (by first | exact lit_A1 | exact lit_FF7x) ?_))
local macro_rules | `(tactic| walk_at "compareOp Eq str str") => `(tactic| (refine s_eq_by (by first | exact Sofar.fin (by assumption) | exact Sofar.fin_bs (by assumption)) ?_))
local macro_rules | `(tactic| walk_at "subscriptTail Name Call ref int") => `(tactic| (k_here; (with_reducible rename AllPieces _ => hall'); k_dflt (refine' tab_ref (l := 79) (refs := [69, 70, 71, 72, 73, 74, 75, 76, 77, 78]) ?F ?X ?o ?ok ?len ?h0 ?h1 ?_; (case F => k_asm); (case X => k_asm); (case o => k_is); (case ok => rfl); (case len => decide); (case h0 => assumption); (case h1 => ((show _ < (10 : Int)); assumption))); intro a ha; obtain ⟨wp, dp, hPi, hPo⟩ := AllPieces.out hall' a ha; have hw2 := hPo.1; have hd2 := hPo.2.1))
local macro_rules | `(tactic| walk_at "subscriptTail Name Constant ref int") => `(tactic| ((with_reducible_and_instances show wpAny _ _ (subscriptTail _ _ _ (Value.int 0 _)) _ _ _); (with_reducible rename PieceIs _ _ _ _ => hPi); (with_reducible rename Fr _ _ _ _ => F'); refine' piece_0 F' hPi ?_; intro _))
local macro_rules | `(tactic| walk_at "subscriptTail Name Constant ref int") => `(tactic| ((with_reducible_and_instances show wpAny _ _ (subscriptTail _ _ _ (Value.int 1 _)) _ _ _); (with_reducible rename PieceIs _ _ _ _ => hPi); (with_reducible rename Fr _ _ _ _ => F'); refine' piece_1 F' hPi ?_; intro _))
local macro_rules | `(tactic| walk_at "binaryOp Add str str") => `(tactic| (refine s_add (by first | exact lit_bs | with_reducible rfl) (by first | exact lit_bs | with_reducible rfl) (by ((try simp only [List.length_append, List.length_cons, List.length_nil]); omega)) ?_; intro _ _))

set_option maxRecDepth 100000
set_option maxHeartbeats 8000000 in
theorem law0 : PySem.Challenge.rw_bc6008_01.Holds := hd (by
  k_go0
  all_goals try k_fold
  k_steps
  all_goals refine Stop.go ?_
  · rename Heap.IsList _ _ _ => hL
    rename IntsAre _ _ => hI
    rename News _ _ _ _ => N1
    obtain ⟨at_, G, e9, N2, hc2, hc1, hG⟩ := open2 N1 (by omega) (by omega)
    subst e9
    have hl := or_list (G := G) hL
    have hlen : _ ≤ 63 := Nat.le_of_not_lt (fun x => absurd (Int.ofNat_lt.mpr x) (by assumption))
    clear N1
    have mark := Mark.mk
    k_steps
    refine Stop.go ?_
    rename Fr _ _ _ _ => F3
    rename News _ _ _ _ => N3
    rename IsRange _ _ _ _ _ _ _ _ => hr
    obtain ⟨n9, hn9, hr2, hn10⟩ := range_nat (c := 3) hr (by omega) (by omega)
    clear hr N2
    have N4 := N3
    clear N3
    refine for_range (fun i m' nx => ∃ (k : Int) (t : Tok), nx = (at_, W.listOf #[.int k t] 0) :: G ∧ 1 ≤ k ∧ k ≤ 1 + 49 * i) rfl hr2 (by omega) F3 N4 ⟨0 + 1, _, rfl, by omega, by omega⟩ ?_ ?_
    · rintro i m₁ nx h tk own t hi hoff ⟨k, tkk, rfl, hk0, hk1⟩ F5 N5
      obtain ⟨G', N6, hsub, hown, hne⟩ := open_turn N5 hoff hG
      replace hl := or_mono hl hsub
      replace hc1 := hsub _ hc1
      replace hc2 := hsub _ hc2
      clear N5 N4 F3 hr2
      k_steps
      refine Stop.go ?_
      rename Fr _ _ _ _ => F7
      rename News _ _ _ _ => N7
      rename IsRange _ _ _ _ _ _ _ _ => hr7
      obtain ⟨nu, hnu, hr8, hnu8⟩ := range_nat (c := 8) hr7 (by omega) (by omega)
      clear hr7 N6 F5
      refine LCg.CompSrc.range rfl F7 N7 hr8 (range_fine (by omega)).1 (range_fine (by omega)).2 (Nat.le_trans (show nu ≤ 1000 by omega) (by decide)) ?_
      intro g
      refine comp_ind (fun i2 ys nx => ∃ (us : List U) (os : List (Addr × Obj)) (k2 : Int) (t2 : Tok), nx = (at_, W.listOf #[.int k2 t2] 0) :: (os ++ G') ∧ UnitsAt os ys us ∧ us.length = i2 ∧ (∀ u ∈ us, UnOk u.k u.a u.b u.c) ∧ (∀ p ∈ os, p.1 ≠ at_) ∧ 1 ≤ k2 ∧ k2 ≤ k + 1 + 6 * i2)
        ⟨[], [], k + 1, _, rfl, UnitsAt.nil, rfl, (fun _ h => nomatch h), (fun _ h => nomatch h), by omega, by omega⟩ ?_ ?_
      · rintro i2 ys nx hi2 ⟨us, os, k2, t2, rfl, hUs, hul, huo, hos, hk20, hk21⟩ v I oI C oC D m₂ h9 tk9 E' hP hC hx F8 N8 off hne8
        obtain ⟨R, N9, hcI, hcC, hcD, hsubR, hneR⟩ := comp_turn N8 off (ne_app hos hne)
        replace hl := or_mono hl (fun p hp => hsubR p (List.mem_append_right _ hp))
        replace hc1 := hsubR _ (List.mem_append_right _ hc1)
        replace hc2 := hsubR _ (List.mem_append_right _ hc2)
        clear N8 N7 F7 hr8
        k_steps
        refine Stop.go ?_
        rename Fr _ _ _ _ => F10
        rename News _ _ _ _ => N10
        rename IsUn _ _ _ _ _ => hUn
        rename UnOk _ _ _ _ => hUo
        rename at_ < _ => hxa
        refine unit_end F10 N10 hcI hcC hcD off (by assumption) hsubR ⟨_, _, _, _, rfl, hUs.snoc (u := ⟨_, _, _, _⟩) hUn, by simp [hul], all_snoc huo hUo, ne_cons hos hxa, by omega, by omega⟩
      · rintro ys nx ⟨us, os, k2, t2, rfl, hUs, hul, huo, hos, hk20, hk21⟩
        intro D h9 tk9 F8 N8 o1
        have hU : UsAt ((D, LCg.lst ys) :: (at_, W.listOf #[.int k2 t2] 0) :: (os ++ G')) D us := hUs.us.mono fun p hp => by
          rcases List.mem_cons.mp hp with rfl | hp
          · exact .head _
          · exact .tail _ (.tail _ (List.mem_append_left _ hp))
        have h8 : us.length ≤ 8 := by omega
        have hB : ∀ u ∈ us, UB u := fun u hu => (huo u hu).ub
        clear F7 N7 hr8
        k_steps
        · rename Fr _ _ _ _ => F9
          rename News _ _ _ _ => N9
          exact InvEndN.intro F9 N9 ⟨k2, _, rfl, by omega, by omega⟩ rfl (fun p hp => .tail _ (tm0 hsub hp)) (fun p hp => .tail _ (tm1 hown hp))
        · rename Pieces _ _ _ _ _ => hPc
          obtain ⟨hSU, hSS, hAH, hwl⟩ := law_pieces huo h8 hPc
          subst hSS
          replace hSU := Due.mk hSU
          clear hPc
          refine Stop.go ?_
          k_steps
          rename Fr _ _ _ _ => F9
          rename News _ _ _ _ => N9
          exact InvEndN.intro F9 N9 ⟨k2, _, rfl, by omega, by omega⟩ rfl (fun p hp => .tail _ (.tail _ (tm0 hsub hp))) (fun p hp => .tail _ (.tail _ (tm1 hown hp)))
    · rintro m₁ nx h tk ⟨k, tkk, rfl, hk0, hk1⟩ F5 N5
      clear N4 F3 hr2 mark
      k_steps
      refine Stop.go ?_
      have mark := Mark.mk
      rename News _ _ _ _ => N7
      have N8 := News.perm N7 (fun p hp => List.Mem.tail _ hp)
      clear N7
      rename Frag.In _ _ => hX
      have hall := all_pieces (piece_of hX (by k_is) (by decide +kernel) (by decide +kernel) (piece_one (c := 97) (by decide))) (piece_of hX (by k_is) (by decide +kernel) (by decide +kernel) (piece_two (c := 103) (by decide))) (piece_of hX (by k_is) (by decide +kernel) (by decide +kernel) (piece_two (c := 92) (by decide))) (piece_of hX (by k_is) (by decide +kernel) (by decide +kernel) piece_nl) (piece_of hX (by k_is) (by decide +kernel) (by decide +kernel) (piece_two (c := 13) (by decide))) (piece_of hX (by k_is) (by decide +kernel) (by decide +kernel) (piece_two (c := 9) (by decide))) (piece_of hX (by k_is) (by decide +kernel) (by decide +kernel) (piece_two (c := 12) (by decide))) (piece_of hX (by k_is) (by decide +kernel) (by decide +kernel) (piece_two (c := 233) (by decide))) (piece_of hX (by k_is) (by decide +kernel) (by decide +kernel) (piece_one (c := 10) (by decide))) (piece_of hX (by k_is) (by decide +kernel) (by decide +kernel) (piece_two (c := 55) (by decide)))
      k_steps
      refine Stop.go ?_
      rename Fr _ _ _ _ => F3
      rename News _ _ _ _ => N3
      rename IsRange _ _ _ _ _ _ _ _ => hr
      obtain ⟨n8, hn8, hr2, hn11⟩ := range_nat (c := 7) hr (by omega) (by omega)
      clear hr
      have F4 := Fr_fmO F3 [("written", .str (S []) _), ("due", .str (S []) _)] ⟨congrArg (fun x => some (Value.str x _)) lit_empty, congrArg (fun x => some (Value.str x _)) lit_empty, trivial⟩
      refine for_range (fun i m' nx => ∃ (k : Int) (t : Tok) (wr du : List Nat) (t1 t2 : Tok) (rest : Str → Option Value), nx = (at_, W.listOf #[.int k t] 0) :: G ∧ m' = fmO [("written", .str (S wr) t1), ("due", .str (S du) t2)] rest ∧ Sofar wr du ∧ wr.length ≤ 2 * i ∧ du.length ≤ 2 * i ∧ 1 ≤ k ∧ k ≤ 200 + i) rfl hr2 (by omega) F4 N3
        ⟨k + 1, _, [], [], _, _, _, rfl, rfl, Sofar.nil, by simp, by simp, by omega, by omega⟩ ?_ ?_
      · rintro i m₁ nx h tk own t hi hoff ⟨k, tkk, wr, du, t1, t2, rest, rfl, rfl, hSo, hwr, hdu, hk0, hk1⟩ F5 N5
        obtain ⟨G', N6, hsub, hown, hne⟩ := open_turn N5 hoff hG
        replace hl := or_mono hl hsub
        replace hc1 := hsub _ hc1
        replace hc2 := hsub _ hc2
        clear N5 N3 F3 F4 hr2
        k_steps
        rename Fr _ _ _ _ => F9
        rename News _ _ _ _ => N9
        rename PieceOk _ _ => hPo
        refine InvEndN.intro (Fr_fmO F9 [("written", .str (S _) _), ("due", .str (S _) _)] ⟨rfl, rfl, trivial⟩) N9 ?hj ?ha (tm2 hsub) (tm3 hown)
        case ha => exact rfl
        case hj => exact ⟨k + 1, _, _, _, _, _, _, rfl, rfl, hSo.snoc hPo, (by rw [List.length_append]; omega), (by rw [List.length_append]; omega), by omega, by omega⟩
      · rintro m₁ nx h tk ⟨k, tkk, wr, du, t1, t2, rest, rfl, rfl, hSo, hwr, hdu, hk0, hk1⟩ F5 N5
        clear N3 F3 F4 hr2
        have hA1 := all_411
        have hA2 := all_1234
        have hD1 := due_411
        have hD2 := due_1234
        have hL1 : l411.length ≤ 100000 := by decide
        have hL2 : l1234.length ≤ 100000 := by decide
        k_steps

  · rename News _ _ _ _ => N1
    obtain ⟨at_, G, e9, N2, hcl, hc2, hc1, hG⟩ := open3 N1 (by omega) (by omega) (by omega)
    subst e9
    obtain ⟨vs, hI, hcl2⟩ := three hcl

    have hl := or_mem N2 hcl2
    have hpos : 0 < ([3, 1, 2] : List Int).length := by decide
    have hlen : ([3, 1, 2] : List Int).length ≤ 63 := by decide
    clear N1
    have mark := Mark.mk
    k_steps
    refine Stop.go ?_
    rename Fr _ _ _ _ => F3
    rename News _ _ _ _ => N3
    rename IsRange _ _ _ _ _ _ _ _ => hr
    obtain ⟨n9, hn9, hr2, hn10⟩ := range_nat (c := 3) hr (by omega) (by omega)
    clear hr N2
    have N4 := N3
    clear N3
    refine for_range (fun i m' nx => ∃ (k : Int) (t : Tok), nx = (at_, W.listOf #[.int k t] 0) :: G ∧ 1 ≤ k ∧ k ≤ 1 + 49 * i) rfl hr2 (by omega) F3 N4 ⟨0 + 1, _, rfl, by omega, by omega⟩ ?_ ?_
    · rintro i m₁ nx h tk own t hi hoff ⟨k, tkk, rfl, hk0, hk1⟩ F5 N5
      obtain ⟨G', N6, hsub, hown, hne⟩ := open_turn N5 hoff hG
      replace hl := or_mono hl hsub
      replace hc1 := hsub _ hc1
      replace hc2 := hsub _ hc2
      clear N5 N4 F3 hr2
      k_steps
      refine Stop.go ?_
      rename Fr _ _ _ _ => F7
      rename News _ _ _ _ => N7
      rename IsRange _ _ _ _ _ _ _ _ => hr7
      obtain ⟨nu, hnu, hr8, hnu8⟩ := range_nat (c := 8) hr7 (by omega) (by omega)
      clear hr7 N6 F5
      refine LCg.CompSrc.range rfl F7 N7 hr8 (range_fine (by omega)).1 (range_fine (by omega)).2 (Nat.le_trans (show nu ≤ 1000 by omega) (by decide)) ?_
      intro g
      refine comp_ind (fun i2 ys nx => ∃ (us : List U) (os : List (Addr × Obj)) (k2 : Int) (t2 : Tok), nx = (at_, W.listOf #[.int k2 t2] 0) :: (os ++ G') ∧ UnitsAt os ys us ∧ us.length = i2 ∧ (∀ u ∈ us, UnOk u.k u.a u.b u.c) ∧ (∀ p ∈ os, p.1 ≠ at_) ∧ 1 ≤ k2 ∧ k2 ≤ k + 1 + 6 * i2)
        ⟨[], [], k + 1, _, rfl, UnitsAt.nil, rfl, (fun _ h => nomatch h), (fun _ h => nomatch h), by omega, by omega⟩ ?_ ?_
      · rintro i2 ys nx hi2 ⟨us, os, k2, t2, rfl, hUs, hul, huo, hos, hk20, hk21⟩ v I oI C oC D m₂ h9 tk9 E' hP hC hx F8 N8 off hne8
        obtain ⟨R, N9, hcI, hcC, hcD, hsubR, hneR⟩ := comp_turn N8 off (ne_app hos hne)
        replace hl := or_mono hl (fun p hp => hsubR p (List.mem_append_right _ hp))
        replace hc1 := hsubR _ (List.mem_append_right _ hc1)
        replace hc2 := hsubR _ (List.mem_append_right _ hc2)
        clear N8 N7 F7 hr8
        k_steps
        refine Stop.go ?_
        rename Fr _ _ _ _ => F10
        rename News _ _ _ _ => N10
        rename IsUn _ _ _ _ _ => hUn
        rename UnOk _ _ _ _ => hUo
        rename at_ < _ => hxa
        refine unit_end F10 N10 hcI hcC hcD off (by assumption) hsubR ⟨_, _, _, _, rfl, hUs.snoc (u := ⟨_, _, _, _⟩) hUn, by simp [hul], all_snoc huo hUo, ne_cons hos hxa, by omega, by omega⟩
      · rintro ys nx ⟨us, os, k2, t2, rfl, hUs, hul, huo, hos, hk20, hk21⟩
        intro D h9 tk9 F8 N8 o1
        have hU : UsAt ((D, LCg.lst ys) :: (at_, W.listOf #[.int k2 t2] 0) :: (os ++ G')) D us := hUs.us.mono fun p hp => by
          rcases List.mem_cons.mp hp with rfl | hp
          · exact .head _
          · exact .tail _ (.tail _ (List.mem_append_left _ hp))
        have h8 : us.length ≤ 8 := by omega
        have hB : ∀ u ∈ us, UB u := fun u hu => (huo u hu).ub
        clear F7 N7 hr8
        k_steps
        · rename Fr _ _ _ _ => F9
          rename News _ _ _ _ => N9
          exact InvEndN.intro F9 N9 ⟨k2, _, rfl, by omega, by omega⟩ rfl (fun p hp => .tail _ (tm0 hsub hp)) (fun p hp => .tail _ (tm1 hown hp))
        · rename Pieces _ _ _ _ _ => hPc
          obtain ⟨hSU, hSS, hAH, hwl⟩ := law_pieces huo h8 hPc
          subst hSS
          replace hSU := Due.mk hSU
          clear hPc
          refine Stop.go ?_
          k_steps
          rename Fr _ _ _ _ => F9
          rename News _ _ _ _ => N9
          exact InvEndN.intro F9 N9 ⟨k2, _, rfl, by omega, by omega⟩ rfl (fun p hp => .tail _ (.tail _ (tm0 hsub hp))) (fun p hp => .tail _ (.tail _ (tm1 hown hp)))
    · rintro m₁ nx h tk ⟨k, tkk, rfl, hk0, hk1⟩ F5 N5
      clear N4 F3 hr2 mark
      k_steps
      refine Stop.go ?_
      have mark := Mark.mk
      rename News _ _ _ _ => N7
      have N8 := News.perm N7 (fun p hp => List.Mem.tail _ hp)
      clear N7
      rename Frag.In _ _ => hX
      have hall := all_pieces (piece_of hX (by k_is) (by decide +kernel) (by decide +kernel) (piece_one (c := 97) (by decide))) (piece_of hX (by k_is) (by decide +kernel) (by decide +kernel) (piece_two (c := 103) (by decide))) (piece_of hX (by k_is) (by decide +kernel) (by decide +kernel) (piece_two (c := 92) (by decide))) (piece_of hX (by k_is) (by decide +kernel) (by decide +kernel) piece_nl) (piece_of hX (by k_is) (by decide +kernel) (by decide +kernel) (piece_two (c := 13) (by decide))) (piece_of hX (by k_is) (by decide +kernel) (by decide +kernel) (piece_two (c := 9) (by decide))) (piece_of hX (by k_is) (by decide +kernel) (by decide +kernel) (piece_two (c := 12) (by decide))) (piece_of hX (by k_is) (by decide +kernel) (by decide +kernel) (piece_two (c := 233) (by decide))) (piece_of hX (by k_is) (by decide +kernel) (by decide +kernel) (piece_one (c := 10) (by decide))) (piece_of hX (by k_is) (by decide +kernel) (by decide +kernel) (piece_two (c := 55) (by decide)))
      k_steps
      refine Stop.go ?_
      rename Fr _ _ _ _ => F3
      rename News _ _ _ _ => N3
      rename IsRange _ _ _ _ _ _ _ _ => hr
      obtain ⟨n8, hn8, hr2, hn11⟩ := range_nat (c := 7) hr (by omega) (by omega)
      clear hr
      have F4 := Fr_fmO F3 [("written", .str (S []) _), ("due", .str (S []) _)] ⟨congrArg (fun x => some (Value.str x _)) lit_empty, congrArg (fun x => some (Value.str x _)) lit_empty, trivial⟩
      refine for_range (fun i m' nx => ∃ (k : Int) (t : Tok) (wr du : List Nat) (t1 t2 : Tok) (rest : Str → Option Value), nx = (at_, W.listOf #[.int k t] 0) :: G ∧ m' = fmO [("written", .str (S wr) t1), ("due", .str (S du) t2)] rest ∧ Sofar wr du ∧ wr.length ≤ 2 * i ∧ du.length ≤ 2 * i ∧ 1 ≤ k ∧ k ≤ 200 + i) rfl hr2 (by omega) F4 N3
        ⟨k + 1, _, [], [], _, _, _, rfl, rfl, Sofar.nil, by simp, by simp, by omega, by omega⟩ ?_ ?_
      · rintro i m₁ nx h tk own t hi hoff ⟨k, tkk, wr, du, t1, t2, rest, rfl, rfl, hSo, hwr, hdu, hk0, hk1⟩ F5 N5
        obtain ⟨G', N6, hsub, hown, hne⟩ := open_turn N5 hoff hG
        replace hl := or_mono hl hsub
        replace hc1 := hsub _ hc1
        replace hc2 := hsub _ hc2
        clear N5 N3 F3 F4 hr2
        k_steps
        rename Fr _ _ _ _ => F9
        rename News _ _ _ _ => N9
        rename PieceOk _ _ => hPo
        refine InvEndN.intro (Fr_fmO F9 [("written", .str (S _) _), ("due", .str (S _) _)] ⟨rfl, rfl, trivial⟩) N9 ?hj ?ha (tm2 hsub) (tm3 hown)
        case ha => exact rfl
        case hj => exact ⟨k + 1, _, _, _, _, _, _, rfl, rfl, hSo.snoc hPo, (by rw [List.length_append]; omega), (by rw [List.length_append]; omega), by omega, by omega⟩
      · rintro m₁ nx h tk ⟨k, tkk, wr, du, t1, t2, rest, rfl, rfl, hSo, hwr, hdu, hk0, hk1⟩ F5 N5
        clear N3 F3 F4 hr2
        have hA1 := all_411
        have hA2 := all_1234
        have hD1 := due_411
        have hD2 := due_1234
        have hL1 : l411.length ≤ 100000 := by decide
        have hL2 : l1234.length ≤ 100000 := by decide
        k_steps

  )
end
end Mine

end

theorem PySem.Challenge.cw_bc6008_01_holds : PySem.Challenge.rw_bc6008_01.Holds :=
  Mine.law0
