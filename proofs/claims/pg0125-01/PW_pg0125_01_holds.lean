import PyProof.Rows.All
import Wide.All
import OpenK.AllK
import Wide.FinOn
import PySem.Challenge.RW_pg0125_01
open PySem PySem.W PyProof.Rows PySem.Calls
set_option Elab.async false
set_option maxRecDepth 100000
set_option maxHeartbeats 8000000
set_option linter.unusedVariables false
namespace Mine
open_top hd for PySem.Challenge.rw_pg0125_01
abbrev Led := List (Addr × Obj)

def CallSpec (w : World) (f : Addr) (vs : List Value) (news : Led) (d u : Nat) (Post : Value → Led → Prop) : Prop :=
  ∀ (mean : ExcName → Option Value) (mg mb : Str → Option Value) (dp un : Nat) (gd : Option (List Code)) (cn : Str) (cs : Scope) (a : Addr) (ccd : Value) (cl : List (Str × Addr)) (outer : List Env) (A₀ : Around) (base h₀ : Heap) (L : Addr) (m : Str → Option Value) (s : Shared) (Q E : Value → Shared → Prop),
    Below A₀ base outer h₀ → Fr h₀ L s.heap m → (Mine.hd.heap_39 w.params).In h₀ → News h₀ L s.heap news → Top Mine.hd.view_39 (looseW Mine.hd.view_39 []) mean mg mb h₀ → cs.kind = .function →
    dp + d < recursionLimit → un + u < cLine →
    (∀ r news' h' tk', Post r news' → Fr h₀ L h' m → News h₀ L h' news' → Q r { s with heap := h', toks := tk' }) →
    wpAny (model PySem.Challenge.rw_pg0125_01.row.prog w) (ktrTop dp un gd cn cs L a ccd cl outer) (call (.ref f) vs) Q E s

/-- the text of a value -/
def sv : Value → Str
  | .str x _ => x
  | _ => Str.empty
def IsS (v : Value) : Prop := ∃ x t, v = .str x t

abbrev ST := Str × Tok
def strV (p : ST) : Value := .str p.1 p.2
abbrev strL (its : List ST) : List Value := its.map strV

section
variable {prog : Program} {w : World} {A : Around} {E : Value → Shared → Prop} {s : Shared} {h₀ : Heap} {L D : Addr} {m : Str → Option Value} {news news' : List (Addr × Obj)} {its : List ST} {n : Nat} {k : Int} {t u : Tok}

theorem item_S {value slice : PySem.Expr} {Q : Value → Shared → Prop} (N : News h₀ L s.heap news) (hm : (D, listOf (strL its).toArray n) ∈ news) (h0 : 0 ≤ k) (h1 : k < its.length) (hz : its.length < 2 ^ 62)
    (h : ∀ x t, its[k.toNat]? = some (x, t) → Q (.str x t) s)
    (hs : subscripted slice false (.ref D) (.int k u) = operate [.ref D, .int k u] (getItem (.ref D) (.int k u)) := by with_unfolding_all rfl) (hg : ∀ r, letTemporaryGo value (.ref D) r = pure () := by intro _; with_unfolding_all rfl) :
    wpAny (model prog w) A (subscriptTail value slice (.ref D) (.int k u)) Q E s := by
  have hlt : k.toNat < its.length := by omega
  obtain ⟨p, hp⟩ : ∃ p, its[k.toNat]? = some p := ⟨_, List.getElem?_eq_getElem hlt⟩
  obtain ⟨x, t⟩ := p
  refine kim_list N hm rfl rfl h0 (by omega) ?_ (h x t hp) hs hg
  show (its.map strV)[k.toNat]? = some (.str x t)
  rw [List.getElem?_map, hp]; rfl

theorem set_S {x : Str} {Q : Unit → Shared → Prop} (F : Fr h₀ L s.heap m) (N : News h₀ L s.heap news) (U : Upd D (listOf (strL its).toArray n) (listOf (strL (its.set k.toNat (x, u))).toArray n) news news')
    (h0 : 0 ≤ k) (h1 : k < its.length) (hz : its.length < 2 ^ 62)
    (h : ∀ h', Fr h₀ L h' m → News h₀ L h' news' → Q () { s with heap := h' }) :
    wpAny (model prog w) A (setItem (.ref D) (.int k t) (.str x u)) Q E s := by
  obtain ⟨pre, post, rfl, rfl, a, b⟩ := U.split
  have z := N (D, listOf (strL its).toArray n) (List.mem_append.mpr (.inr (.head _)))
  refine ki_setAt z.1 h0 (by omega) (by simp; omega) (h _ (F.change (Heap.SameBut.update ..) z.2.1 z.2.2) (ki_turn _ N a b ?_ ?_))
  · show (strL its).toArray.setIfInBounds k.toNat (.str x u) = (strL (its.set k.toNat (x, u))).toArray
    apply Array.toList_inj.mp
    simp [strL, List.map_set, strV]
  · simp
end

section
variable {prog : Program} {w : World} {A : Around} {E : Value → Shared → Prop} {s : Shared} {h₀ : Heap} {L D : Addr} {m : Str → Option Value} {news news' : List (Addr × Obj)} {its : List ST} {n : Nat} {k : Int} {t u : Tok}
theorem append_S {x : Str} {Q : Value → Shared → Prop} (F : Fr h₀ L s.heap m) (N : News h₀ L s.heap news) (U : Upd D (listOf (strL its).toArray n) (listOf (strL (its ++ [(x, u)])).toArray (n + 1)) news news')
    (hz : its.length ≤ sizeLine) (h : ∀ h', Fr h₀ L h' m → News h₀ L h' news' → Q .none { s with heap := h' }) :
    wpAny (model prog w) A (call (.builtin "list.append") [.ref D, .str x u]) Q E s := by
  refine append_K F N (x := .str x u) (its := (strL its).toArray) (n := n) ?_ h (by simpa using hz)
  have e : (strL its).toArray.push (.str x u) = (strL (its ++ [(x, u)])).toArray := by
    apply Array.toList_inj.mp
    simp [strL, strV]
  rw [e]; exact U
end
section
variable {prog : Program} {w : World} {A : Around} {E : Value → Shared → Prop} {s : Shared} {h₀ : Heap} {L D : Addr} {m : Str → Option Value} {news news' : List (Addr × Obj)} {its : List ST} {n : Nat} {k : Int} {t u : Tok}
theorem len_L {vs : List Value} {Q : Value → Shared → Prop} (N : News h₀ L s.heap news) (hm : (D, listOf vs.toArray n) ∈ news) (hz : vs.length < 2 ^ 62) (h : Q (.int (vs.length : Int) (s.toks + 1)) { s with toks := s.toks + 1 + 1 }) :
    wpAny (model prog w) A (call (.builtin "len") [.ref D]) Q E s := by
  refine len_list (News.isList N hm) (by rw [List.size_toArray]; omega) ?_
  rw [List.size_toArray]; exact h
theorem len_S {Q : Value → Shared → Prop} (N : News h₀ L s.heap news) (hm : (D, listOf (strL its).toArray n) ∈ news) (hz : its.length < 2 ^ 62) (h : Q (.int (its.length : Int) (s.toks + 1)) { s with toks := s.toks + 1 + 1 }) :
    wpAny (model prog w) A (call (.builtin "len") [.ref D]) Q E s := by
  refine len_L N hm (by simpa using hz) ?_
  rw [List.length_map]; exact h
theorem truthy_S {Q : Bool → Shared → Prop} (N : News h₀ L s.heap news) (hm : (D, listOf (strL its).toArray n) ∈ news) (hz : its.length < 2 ^ 62) (h : Q (decide (0 < its.length)) { s with toks := s.toks + 1 + 1 }) :
    wpAny (model prog w) A (truthy (.ref D)) Q E s := by
  refine wpAny_truthy_list (News.isList N hm) (by simp; omega) ?_
  have e : (!(strL its).toArray.isEmpty) = decide (0 < its.length) := by
    cases its with
    | nil => rfl
    | cons _ _ => simp
  rw [e]; exact h
theorem pop_S {x : Str} {Q : Value → Shared → Prop} (F : Fr h₀ L s.heap m) (N : News h₀ L s.heap news) (U : Upd D (listOf (strL (its ++ [(x, u)])).toArray n) (listOf (strL its).toArray (n + 1)) news news')
    (hz : its.length < sizeLine) (h : ∀ h', Fr h₀ L h' m → News h₀ L h' news' → Q (.str x u) { s with heap := h' }) :
    wpAny (model prog w) A (call (.builtin "list.pop") [.ref D]) Q E s := by
  refine kl_pop F N (its := (strL (its ++ [(x, u)])).toArray) (p := strL its) ?_ U (by simp; omega) h
  show kl_last (List.map strV (its ++ [(x, u)])) = _
  rw [List.map_append]; exact kpa_last _ _
end

theorem spec_use {w : World} {f : Addr} {vs : List Value} {news : Led} {d u : Nat} {Post : Value → Led → Prop} (C : CallSpec w f vs news d u Post)
    {mean : ExcName → Option Value} {mg mb : Str → Option Value} {dp un : Nat} {gd : Option (List Code)} {cn : Str} {cs : Scope} {a : Addr} {ccd : Value} {cl : List (Str × Addr)} {outer : List Env} {A₀ : Around} {base h₀ : Heap} {L : Addr} {m : Str → Option Value} {s : Shared} {Q E : Value → Shared → Prop}
    (B : Below A₀ base outer h₀) (F : Fr h₀ L s.heap m) (X : (Mine.hd.heap_39 w.params).In h₀) (N : News h₀ L s.heap news) (T : Top Mine.hd.view_39 (looseW Mine.hd.view_39 []) mean mg mb h₀) (hk : cs.kind = .function)
    (hd : dp + d < recursionLimit) (hu : un + u < cLine)
    (ret : ∀ r news' h' tk', Post r news' → Fr h₀ L h' m → News h₀ L h' news' → Q r { s with heap := h', toks := tk' }) :
    wpAny (model PySem.Challenge.rw_pg0125_01.row.prog w) (ktrTop dp un gd cn cs L a ccd cl outer) (call (.ref f) vs) Q E s :=
  C _ _ _ _ _ _ _ _ _ _ _ _ _ _ _ _ _ _ _ _ B F X N T hk hd hu ret

theorem shr1 {prog : Program} {w : World} {A : Around} {E : Value → Shared → Prop} {s : Shared} {q : Nat} {t u : Tok} {Q : Value → Shared → Prop} (hq : 0 < (q : Int)) (h : Q (.int (((q - 1) / 2 : Nat) : Int) s.toks) { s with toks := s.toks + 1 }) :
    wpAny (model prog w) A (binaryOp .RShift (.int ((q : Int) - 1) t) (.int 1 u)) Q E s := by
  refine rshift_int (by decide) ?_
  have e : ((q : Int) - 1).fdiv (2 ^ (1 : Int).toNat) = (((q - 1) / 2 : Nat) : Int) := by
    rw [show ((2 : Int) ^ (1 : Int).toNat) = 2 from rfl, Int.fdiv_eq_ediv_of_nonneg _ (by decide)]
    omega
  rw [e]; exact h

section
variable {α β : Type}
def sdLoop (lt : α → α → Bool) (x : α) : Nat → List α → Nat → List α
  | 0, l, p => l.set p x
  | n + 1, l, p => if p = 0 then l.set p x else
    match l[(p - 1) / 2]? with
    | none => l.set p x
    | some y => if lt x y then sdLoop lt x n (l.set p y) ((p - 1) / 2) else l.set p x
def siftdown (lt : α → α → Bool) (l : List α) (p : Nat) : List α :=
  match l[p]? with
  | none => l
  | some x => sdLoop lt x p l p
def pickCh (lt : α → α → Bool) (l : List α) (ch : Nat) : Nat :=
  match l[ch]?, l[ch + 1]? with
  | some a, some b => if lt a b then ch else ch + 1
  | _, _ => ch
def suLoop (lt : α → α → Bool) : Nat → List α → Nat → List α × Nat
  | 0, l, p => (l, p)
  | n + 1, l, p => if 2 * p + 1 < l.length then
      match l[pickCh lt l (2 * p + 1)]? with
      | some y => suLoop lt n (l.set p y) (pickCh lt l (2 * p + 1))
      | none => (l, p)
    else (l, p)
def siftup (lt : α → α → Bool) (l : List α) : List α :=
  match l[0]? with
  | none => l
  | some x => siftdown lt ((suLoop lt l.length l 0).1.set (suLoop lt l.length l 0).2 x) (suLoop lt l.length l 0).2
def popL (lt : α → α → Bool) (l : List α) : List α :=
  match l.getLast? with
  | none => []
  | some x => match l.dropLast with
    | [] => []
    | y :: r => siftup lt (x :: r)
end
def ltS (x y : Str) : Bool := decide (x.cps.toList < y.cps.toList)
def ltT (x y : ST) : Bool := ltS x.1 y.1

theorem su_step {α : Type} (lt : α → α → Bool) {n : Nat} {c : List α} {q ch : Nat} {y : α} (h1 : 2 * q + 1 < c.length) (h2 : pickCh lt c (2 * q + 1) = ch) (h3 : c[ch]? = some y) : suLoop lt (n + 1) c q = suLoop lt n (c.set q y) ch := by
  subst h2
  rw [suLoop, if_pos h1, h3]
theorem su_stop {α : Type} (lt : α → α → Bool) {n : Nat} {c : List α} {q : Nat} (h1 : ¬ 2 * q + 1 < c.length) : suLoop lt n c q = (c, q) := by
  cases n with
  | zero => rfl
  | succ n => rw [suLoop, if_neg h1]
theorem pick_l {α : Type} (lt : α → α → Bool) {c : List α} {ch : Nat} {a b : α} (h1 : c[ch]? = some a) (h2 : c[ch + 1]? = some b) (h3 : lt a b = true) : pickCh lt c ch = ch := by
  unfold pickCh; rw [h1, h2]; dsimp only; rw [if_pos h3]
theorem pick_r {α : Type} (lt : α → α → Bool) {c : List α} {ch : Nat} {a b : α} (h1 : c[ch]? = some a) (h2 : c[ch + 1]? = some b) (h3 : ¬ lt a b = true) : pickCh lt c ch = ch + 1 := by
  unfold pickCh; rw [h1, h2]; dsimp only; rw [if_neg h3]
theorem pick_n {α : Type} (lt : α → α → Bool) {c : List α} {ch : Nat} (h2 : ¬ ch + 1 < c.length) : pickCh lt c ch = ch := by
  have e : c[ch + 1]? = none := List.getElem?_eq_none (by omega)
  unfold pickCh; rw [e]; split <;> simp_all

theorem sdLoop_fuel {α : Type} (lt : α → α → Bool) (x : α) : ∀ (n : Nat) (l : List α) (p : Nat), p ≤ n → sdLoop lt x n l p = sdLoop lt x p l p := by
  intro n
  induction n using Nat.strongRecOn with
  | _ n ih =>
    intro l p hp
    match n, p with
    | 0, 0 => rfl
    | n + 1, 0 => simp [sdLoop]
    | n + 1, p + 1 =>
      simp only [sdLoop]
      have hq : (p + 1 - 1) / 2 ≤ n := by omega
      have hq' : (p + 1 - 1) / 2 ≤ p := by omega
      split
      · rfl
      · split
        · rfl
        · split
          · rw [ih n (by omega) _ _ hq]
            by_cases hpn : p = n
            · subst hpn; rw [ih p (by omega) _ _ hq]
            · rw [ih p (by omega) _ _ hq']
          · rfl
section
local macro_rules | `(tactic| k_all) => `(tactic| assumption)
local macro_rules | `(tactic| walk_at "subscriptTail") => `(tactic| (k_here; (with_reducible show wpAny _ _ (subscriptTail _ _ (Value.ref _) (Value.int _ _)) _ _ _); k_dflt (refine' item_S ?k1 ?k2 ?k3 ?k4 ?k5 ?_ ?k7 ?k8; (case k1 => k_asm); (case k2 => k_mem); (case k3 => omega); (case k4 => omega); (case k5 => omega); (case k7 => with_unfolding_all rfl); (case k8 => intro _; with_unfolding_all rfl); k_whole); intro ix' it' ie'))
local macro_rules | `(tactic| walk_at "setItem ref int") => `(tactic| (k_here; (with_reducible show wpAny _ _ (setItem (Value.ref _) (Value.int _ _) (Value.str _ _)) _ _ _); k_dflt (refine' set_S ?k1 ?k2 ?k3 ?k4 ?k5 ?k6 ?_; (case k1 => k_asm); (case k2 => k_asm); (case k3 => k_upd); (case k4 => omega); (case k5 => omega); (case k6 => omega); k_whole); intro h' F' N'; (try k_sweep)))
local macro_rules | `(tactic| walk_at "binaryOp RShift int int") => `(tactic| (k_here; with_reducible refine shr1 (by assumption) ?_))
local macro_rules | `(tactic| walk_at "call builtin:list.append") => `(tactic| (k_here; (with_reducible show wpAny _ _ (call (Value.builtin _) [Value.ref _, Value.str _ _]) _ _ _); k_dflt (refine' append_S ?k1 ?k2 ?k3 ?k4 ?_; (case k1 => k_asm); (case k2 => k_asm); (case k3 => k_upd); (case k4 => (rw [sizeLine_eq]; omega)); k_whole); intro h' F' N'; (try k_sweep)))
local macro_rules | `(tactic| walk_at "call builtin:len") => `(tactic| (k_here; (with_reducible show wpAny _ _ (call (Value.builtin "len") [Value.ref _]) _ _ _); k_dflt (refine' len_S ?k1 ?k2 ?k3 ?_; (case k1 => k_asm); (case k2 => k_mem); (case k3 => (try simp only [List.length_append, List.length_cons, List.length_nil]); omega); k_whole)))
local macro_rules | `(tactic| walk_at "truthy ref") => `(tactic| (k_here; (with_reducible show wpAny _ _ (truthy (Value.ref _)) _ _ _); k_dflt (refine' truthy_S ?k1 ?k2 ?k3 ?_; (case k1 => k_asm); (case k2 => k_mem); (case k3 => (try simp only [List.length_append, List.length_cons, List.length_nil]); omega); k_whole)))
local macro_rules | `(tactic| walk_at "call builtin:list.pop") => `(tactic| (k_here; (with_reducible show wpAny _ _ (call (Value.builtin "list.pop") [Value.ref _]) _ _ _); k_dflt (refine' pop_S ?k1 ?k2 ?k3 ?k4 ?_; (case k1 => k_asm); (case k2 => k_asm); (case k3 => k_upd); (case k4 => (rw [sizeLine_eq]; omega)); k_whole); intro h' F' N'; (try k_sweep)))

theorem sd_spec (w : World) (l : Addr) (its : List ST) (ep : Nat) (rest : Led) (p : Nat) (t0 t1 : Tok) (hr : ∀ q ∈ rest, q.1 ≠ l) (hp : p < its.length) (hz : its.length < 1000) :
    CallSpec w 42 [.ref l, .int 0 t0, .int (p : Int) t1] ((l, listOf (strL its).toArray ep) :: rest) 1 8 (fun r news' => r = .none ∧ news' = (l, listOf (strL (siftdown ltT its p)).toArray ep) :: rest) := by
  w_top off
  unfold CallSpec
  k_fill
  intro mean mg mb dp un gd cn cs a ccd cl outer A₀ base h₀ L m s Q E B F X N T hk hd hu hret
  refine wpAny_call ?_
  k_dflt ktr_enter
  (repeat' ((fail_if_success (with_reducible show wpAny _ _ (exec (Stmt.While _ _ _ _) _) _ _ _)); (fail_if_success (with_reducible show KswEnd _ _ _ _ _ _ _ _ _ _ _ _)); (first | (k_unfold; (try dsimp only)) | (k_end; wrow_close) | walk1 | (dsimp only; walk1) | (dsimp only [List.cons_append, List.nil_append]; walk1) | (leave1; walk_say "STEP leave1"; try dsimp only) | fail "no step")))
  rename Fr _ _ _ _ => F1
  rename News _ _ _ _ => N1
  rename (its[_]? = some _) => e1
  rename Str => x
  rename Tok => t
  rw [Int.toNat_natCast] at e1
  have hst : siftdown ltT its p = sdLoop ltT (x, t) p its p := by unfold siftdown; rw [e1]
  refine ksw_while (σ := List ST × Nat × Tok) (fun c => (l, listOf (strL c.1).toArray ep) :: rest) (fun c => [(Str.ofString "pos", .int (c.2.1:Int) c.2.2)]) (fun _ => True) [Str.ofString "parentpos", Str.ofString "parent"]
    (fun c => c.2.1 < c.1.length ∧ c.1.length = its.length ∧ sdLoop ltT (x, t) c.2.1 c.1 c.2.1 = siftdown ltT its p) (fun c => c.2.1) (its, p, t1) F1 N1 trivial ?_ ⟨hp, rfl, hst.symm⟩ ?_
  · intro q hq
    rw [List.mem_singleton] at hq
    subst hq
    rfl
  · rintro ⟨c, q, tq⟩ u h tk _ ⟨hq, hlen, hsd⟩ F2 N2
    dsimp only [kstB] at hq hlen hsd F2 N2
    try k_fold
    (repeat' ((fail_if_success (with_reducible show wpAny _ _ (exec (Stmt.While _ _ _ _) _) _ _ _)); (fail_if_success (with_reducible show KswEnd _ _ _ _ _ _ _ _ _ _ _ _)); (first | (k_unfold; (try dsimp only)) | (k_end; wrow_close) | walk1 | (dsimp only; walk1) | (dsimp only [List.cons_append, List.nil_append]; walk1) | (leave1; walk_say "STEP leave1"; try dsimp only) | fail "no step")))
    · rename (_ < _) => hlt
      rename (c[_]? = some _) => ie
      rename Fr _ _ _ _ => F3
      rename News _ _ _ _ => N3
      rename (0 < _) => hq0
      rw [Int.toNat_natCast] at ie
      refine' ksw_end (c.set q (_, _), (q - 1) / 2, ?tok) F3 N3 (fun _ (h9 : _ ∈ _) => h9) trivial ?ga ?gb ?gc ?gd
      case gb => ksw_same
      case ga =>
        intro z hz
        rw [List.mem_singleton] at hz
        subst hz
        rfl
      case gc =>
        dsimp only
        refine ⟨by rw [List.length_set]; omega, by rw [List.length_set]; omega, ?_⟩
        rw [← hsd]
        obtain ⟨q', rfl⟩ : ∃ q', q = q' + 1 := ⟨q - 1, by omega⟩
        rw [sdLoop, if_neg (by omega), ie]
        dsimp only
        rw [if_pos (by exact decide_eq_true hlt), sdLoop_fuel ltT (x, t) q' _ _ (by omega)]
      case gd => dsimp only; omega
    · rename (¬ (_ < _)) => hlt
      rename (c[_]? = some _) => ie
      rename (0 < _) => hq0
      rw [Int.toNat_natCast] at ie
      refine hret _ _ _ _ ⟨rfl, ?_⟩ (by assumption) (by assumption)
      rw [← hsd]
      obtain ⟨q', rfl⟩ : ∃ q', q = q' + 1 := ⟨q - 1, by omega⟩
      rw [sdLoop, if_neg (by omega), ie]
      dsimp only
      rw [if_neg (by exact fun e => hlt (of_decide_eq_true e))]
      rfl
    · refine hret _ _ _ _ ⟨rfl, ?_⟩ (by assumption) (by assumption)
      have : q = 0 := by omega
      subst this
      rw [← hsd]
      rfl
theorem sd_spec' (w : World) (l : Addr) (its : List ST) (ep : Nat) (rest : Led) (k : Int) (t0 t1 : Tok) (hr : ∀ q ∈ rest, q.1 ≠ l) (h0 : 0 ≤ k) (hp : k < its.length) (hz : its.length < 1000) :
    CallSpec w 42 [.ref l, .int 0 t0, .int k t1] ((l, listOf (strL its).toArray ep) :: rest) 1 8 (fun r news' => r = .none ∧ news' = (l, listOf (strL (siftdown ltT its k.toNat)).toArray ep) :: rest) := by
  have e : k = (k.toNat : Int) := by omega
  have := sd_spec w l its ep rest k.toNat t0 t1 hr (by omega) hz
  rw [← e] at this
  exact this
end
section
local macro_rules | `(tactic| k_all) => `(tactic| assumption)
local macro_rules | `(tactic| walk_at "subscriptTail") => `(tactic| (k_here; (with_reducible show wpAny _ _ (subscriptTail _ _ (Value.ref _) (Value.int _ _)) _ _ _); k_dflt (refine' item_S ?k1 ?k2 ?k3 ?k4 ?k5 ?_ ?k7 ?k8; (case k1 => k_asm); (case k2 => k_mem); (case k3 => omega); (case k4 => omega); (case k5 => omega); (case k7 => with_unfolding_all rfl); (case k8 => intro _; with_unfolding_all rfl); k_whole); intro ix' it' ie'))
local macro_rules | `(tactic| walk_at "setItem ref int") => `(tactic| (k_here; (with_reducible show wpAny _ _ (setItem (Value.ref _) (Value.int _ _) (Value.str _ _)) _ _ _); k_dflt (refine' set_S ?k1 ?k2 ?k3 ?k4 ?k5 ?k6 ?_; (case k1 => k_asm); (case k2 => k_asm); (case k3 => k_upd); (case k4 => omega); (case k5 => omega); (case k6 => omega); k_whole); intro h' F' N'; (try k_sweep)))
local macro_rules | `(tactic| walk_at "binaryOp RShift int int") => `(tactic| (k_here; with_reducible refine shr1 (by assumption) ?_))
local macro_rules | `(tactic| walk_at "call builtin:list.append") => `(tactic| (k_here; (with_reducible show wpAny _ _ (call (Value.builtin _) [Value.ref _, Value.str _ _]) _ _ _); k_dflt (refine' append_S ?k1 ?k2 ?k3 ?k4 ?_; (case k1 => k_asm); (case k2 => k_asm); (case k3 => k_upd); (case k4 => (rw [sizeLine_eq]; omega)); k_whole); intro h' F' N'; (try k_sweep)))
local macro_rules | `(tactic| walk_at "call builtin:len") => `(tactic| (k_here; (with_reducible show wpAny _ _ (call (Value.builtin "len") [Value.ref _]) _ _ _); k_dflt (refine' len_S ?k1 ?k2 ?k3 ?_; (case k1 => k_asm); (case k2 => k_mem); (case k3 => (try simp only [List.length_append, List.length_cons, List.length_nil]); omega); k_whole)))
local macro_rules | `(tactic| walk_at "truthy ref") => `(tactic| (k_here; (with_reducible show wpAny _ _ (truthy (Value.ref _)) _ _ _); k_dflt (refine' truthy_S ?k1 ?k2 ?k3 ?_; (case k1 => k_asm); (case k2 => k_mem); (case k3 => (try simp only [List.length_append, List.length_cons, List.length_nil]); omega); k_whole)))
local macro_rules | `(tactic| walk_at "call builtin:list.pop") => `(tactic| (k_here; (with_reducible show wpAny _ _ (call (Value.builtin "list.pop") [Value.ref _]) _ _ _); k_dflt (refine' pop_S ?k1 ?k2 ?k3 ?k4 ?_; (case k1 => k_asm); (case k2 => k_asm); (case k3 => k_upd); (case k4 => (rw [sizeLine_eq]; omega)); k_whole); intro h' F' N'; (try k_sweep)))

local macro_rules | `(tactic| walk_at "call ref") => `(tactic| (k_here; (with_reducible show wpAny _ _ (call (Value.ref 42) _) _ _ _); k_dflt (refine' spec_use (sd_spec' _ _ _ _ _ _ _ _ ?c1 ?c2 ?c3 ?c4) ?k1 ?k2 ?k3 ?k4 ?k5 ?k6 ?k7 ?k8 ?_; (case k1 => k_asm); (case k2 => k_asm); (case k3 => k_asm); (case k4 => k_asm); (case k5 => k_asm); (case k6 => exact rfl); (case k7 => ktr_room); (case k8 => ktr_units); (case c1 => assumption); (case c2 => ((try simp only [List.length_append, List.length_cons, List.length_nil]); omega)); (case c3 => ((try simp only [List.length_append, List.length_cons, List.length_nil]); omega)); (case c4 => ((try simp only [List.length_append, List.length_cons, List.length_nil]); omega))); intro r' news' h' tk' P' F' N'))
theorem push_spec (w : World) (l : Addr) (its : List ST) (ep : Nat) (rest : Led) (x : Str) (t : Tok) (hr : ∀ q ∈ rest, q.1 ≠ l) (hz : its.length < 900) :
    CallSpec w 28 [.ref l, .str x t] ((l, listOf (strL its).toArray ep) :: rest) 2 16 (fun r news' => r = .none ∧ news' = (l, listOf (strL (siftdown ltT (its ++ [(x, t)]) its.length)).toArray (ep + 1)) :: rest) := by
  w_top off
  unfold CallSpec
  k_fill
  intro mean mg mb dp un gd cn cs a ccd cl outer A₀ base h₀ L m s Q E B F X N T hk hd hu hret
  refine wpAny_call ?_
  k_dflt ktr_enter
  (repeat' ((fail_if_success (with_reducible show wpAny _ _ (exec (Stmt.While _ _ _ _) _) _ _ _)); (fail_if_success (with_reducible show KswEnd _ _ _ _ _ _ _ _ _ _ _ _)); (first | (k_unfold; (try dsimp only)) | (k_end; wrow_close) | walk1 | (dsimp only; walk1) | (dsimp only [List.cons_append, List.nil_append]; walk1) | (leave1; walk_say "STEP leave1"; try dsimp only) | fail "no step")))
  rename (_ ∧ _) => P
  obtain ⟨rfl, rfl⟩ := P
  (repeat' ((fail_if_success (with_reducible show wpAny _ _ (exec (Stmt.While _ _ _ _) _) _ _ _)); (fail_if_success (with_reducible show KswEnd _ _ _ _ _ _ _ _ _ _ _ _)); (first | (k_unfold; (try dsimp only)) | (k_end; wrow_close) | walk1 | (dsimp only; walk1) | (dsimp only [List.cons_append, List.nil_append]; walk1) | (leave1; walk_say "STEP leave1"; try dsimp only) | fail "no step")))
  refine hret _ _ _ _ ⟨rfl, ?_⟩ (by assumption) (by assumption)
  have e : ((((its ++ [(x, t)]).length : Nat) : Int) - 1).toNat = its.length := by simp
  rw [e]
end
section
local macro_rules | `(tactic| k_all) => `(tactic| assumption)
local macro_rules | `(tactic| walk_at "subscriptTail") => `(tactic| (k_here; (with_reducible show wpAny _ _ (subscriptTail _ _ (Value.ref _) (Value.int _ _)) _ _ _); k_dflt (refine' item_S ?k1 ?k2 ?k3 ?k4 ?k5 ?_ ?k7 ?k8; (case k1 => k_asm); (case k2 => k_mem); (case k3 => omega); (case k4 => omega); (case k5 => omega); (case k7 => with_unfolding_all rfl); (case k8 => intro _; with_unfolding_all rfl); k_whole); intro ix' it' ie'))
local macro_rules | `(tactic| walk_at "setItem ref int") => `(tactic| (k_here; (with_reducible show wpAny _ _ (setItem (Value.ref _) (Value.int _ _) (Value.str _ _)) _ _ _); k_dflt (refine' set_S ?k1 ?k2 ?k3 ?k4 ?k5 ?k6 ?_; (case k1 => k_asm); (case k2 => k_asm); (case k3 => k_upd); (case k4 => omega); (case k5 => omega); (case k6 => omega); k_whole); intro h' F' N'; (try k_sweep)))
local macro_rules | `(tactic| walk_at "binaryOp RShift int int") => `(tactic| (k_here; with_reducible refine shr1 (by assumption) ?_))
local macro_rules | `(tactic| walk_at "call builtin:list.append") => `(tactic| (k_here; (with_reducible show wpAny _ _ (call (Value.builtin _) [Value.ref _, Value.str _ _]) _ _ _); k_dflt (refine' append_S ?k1 ?k2 ?k3 ?k4 ?_; (case k1 => k_asm); (case k2 => k_asm); (case k3 => k_upd); (case k4 => (rw [sizeLine_eq]; omega)); k_whole); intro h' F' N'; (try k_sweep)))
local macro_rules | `(tactic| walk_at "call builtin:len") => `(tactic| (k_here; (with_reducible show wpAny _ _ (call (Value.builtin "len") [Value.ref _]) _ _ _); k_dflt (refine' len_S ?k1 ?k2 ?k3 ?_; (case k1 => k_asm); (case k2 => k_mem); (case k3 => (try simp only [List.length_append, List.length_cons, List.length_nil]); omega); k_whole)))
local macro_rules | `(tactic| walk_at "truthy ref") => `(tactic| (k_here; (with_reducible show wpAny _ _ (truthy (Value.ref _)) _ _ _); k_dflt (refine' truthy_S ?k1 ?k2 ?k3 ?_; (case k1 => k_asm); (case k2 => k_mem); (case k3 => (try simp only [List.length_append, List.length_cons, List.length_nil]); omega); k_whole)))
local macro_rules | `(tactic| walk_at "call builtin:list.pop") => `(tactic| (k_here; (with_reducible show wpAny _ _ (call (Value.builtin "list.pop") [Value.ref _]) _ _ _); k_dflt (refine' pop_S ?k1 ?k2 ?k3 ?k4 ?_; (case k1 => k_asm); (case k2 => k_asm); (case k3 => k_upd); (case k4 => (rw [sizeLine_eq]; omega)); k_whole); intro h' F' N'; (try k_sweep)))
local macro_rules | `(tactic| walk_at "zzz0") => `(tactic| skip)
local macro_rules | `(tactic| walk_at "zzz1") => `(tactic| skip)
local macro_rules | `(tactic| walk_at "call ref") => `(tactic| (k_here; (with_reducible show wpAny _ _ (call (Value.ref 42) _) _ _ _); k_dflt (refine' spec_use (sd_spec' _ _ _ _ _ _ _ _ ?c1 ?c2 ?c3 ?c4) ?k1 ?k2 ?k3 ?k4 ?k5 ?k6 ?k7 ?k8 ?_; (case k1 => k_asm); (case k2 => k_asm); (case k3 => k_asm); (case k4 => k_asm); (case k5 => k_asm); (case k6 => exact rfl); (case k7 => ktr_room); (case k8 => ktr_units); (case c1 => assumption); (case c2 => ((try simp only [List.length_append, List.length_cons, List.length_nil, List.length_set]); omega)); (case c3 => ((try simp only [List.length_append, List.length_cons, List.length_nil, List.length_set]); omega)); (case c4 => ((try simp only [List.length_append, List.length_cons, List.length_nil, List.length_set]); omega))); intro r' news' h' tk' P' F' N'))

theorem su_spec (w : World) (l : Addr) (its : List ST) (ep : Nat) (rest : Led) (t0 : Tok) (hr : ∀ q ∈ rest, q.1 ≠ l) (hp : 0 < its.length) (hz : its.length < 1000) :
    CallSpec w 49 [.ref l, .int 0 t0] ((l, listOf (strL its).toArray ep) :: rest) 2 16 (fun r news' => r = .none ∧ news' = (l, listOf (strL (siftup ltT its)).toArray ep) :: rest) := by
  w_top off
  unfold CallSpec
  k_fill
  intro mean mg mb dp un gd cn cs a ccd cl outer A₀ base h₀ L m s Q E B F X N T hk hd hu hret
  refine wpAny_call ?_
  k_dflt ktr_enter
  (repeat' ((fail_if_success (with_reducible show wpAny _ _ (exec (Stmt.While _ _ _ _) _) _ _ _)); (fail_if_success (with_reducible show KswEnd _ _ _ _ _ _ _ _ _ _ _ _)); (first | (k_unfold; (try dsimp only)) | (k_end; wrow_close) | walk1 | (dsimp only; walk1) | (dsimp only [List.cons_append, List.nil_append]; walk1) | (leave1; walk_say "STEP leave1"; try dsimp only) | fail "no step")))
  rename Fr _ _ _ _ => F1
  rename News _ _ _ _ => N1
  rename (its[_]? = some _) => e1
  rename Str => x
  rename Tok => t
  rw [show (0 : Int).toNat = 0 from rfl] at e1
  refine' ksw_while (σ := List ST × Nat × Tok × Tok) (fun c => (l, listOf (strL c.1).toArray ep) :: rest) (fun c => [(Str.ofString "pos", .int (c.2.1:Int) c.2.2.1), (Str.ofString "childpos", .int (2 * (c.2.1:Int) + 1) c.2.2.2)]) (fun _ => True) [Str.ofString "rightpos"]
    (fun c => c.2.1 < c.1.length ∧ c.1.length = its.length ∧ ∃ n, its.length - c.2.1 ≤ n ∧ suLoop ltT n c.1 c.2.1 = suLoop ltT its.length its 0) (fun c => its.length - c.2.1) (its, 0, t0, ?tok) F1 N1 trivial ?g1 ?g2 ?g3
  case g1 =>
    intro q hq
    rcases List.mem_cons.mp hq with rfl | hq
    · rfl
    rw [List.mem_singleton] at hq
    subst hq
    rfl
  case g2 => exact ⟨hp, rfl, its.length, by dsimp only; omega, rfl⟩
  case g3 =>
    rintro ⟨c, q, tq, tq2⟩ u h tk _ ⟨hq, hlen, n, hn, hsu⟩ F2 N2
    dsimp only [kstB] at hq hlen hn hsu F2 N2
    try k_fold
    (repeat' ((fail_if_success (with_reducible show wpAny _ _ (exec (Stmt.While _ _ _ _) _) _ _ _)); (fail_if_success (with_reducible show KswEnd _ _ _ _ _ _ _ _ _ _ _ _)); (first | (k_unfold; (try dsimp only)) | (k_end; wrow_close) | walk1 | (dsimp only; walk1) | (dsimp only [List.cons_append, List.nil_append]; walk1) | (leave1; walk_say "STEP leave1"; try dsimp only) | fail "no step")))
    all_goals
      have t0' : ((q : Nat) : Int).toNat = q := by omega
      have t1' : (2 * (q : Int) + 1).toNat = 2 * q + 1 := by omega
      have t2' : (2 * (q : Int) + 1 + 1).toNat = 2 * q + 1 + 1 := by omega
    · obtain ⟨n', rfl⟩ : ∃ n', n = n' + 1 := ⟨n - 1, by omega⟩
      rename (_ < _) => hlt'
      rename (c[_]? = some _) => e3'
      rename Fr _ _ _ _ => F3
      rename News _ _ _ _ => N3
      rw [t0'] at N3
      rw [t1'] at e3'
      refine' ksw_end (c.set q (_, _), 2 * q + 1, ?tka1, ?tkb1) F3 N3 (fun _ (h9 : _ ∈ _) => h9) trivial ?ga ?gb ?gc ?gd
      case gb => ksw_same
      case ga => exact List.forall_mem_cons.mpr ⟨by first | rfl | (show some (Value.int _ _) = some (Value.int _ _); rfl), List.forall_mem_cons.mpr ⟨by rfl, List.forall_mem_nil _⟩⟩
      case gc => exact ⟨by dsimp only; rw [List.length_set]; omega, by dsimp only; rw [List.length_set]; omega, n', by dsimp only; omega, by rw [← hsu]; exact (su_step ltT (by omega) (pick_l ltT (a := (_, _)) (b := (_, _)) (by rw [← t1']; assumption) (by rw [← t2']; assumption) (decide_eq_true hlt')) e3').symm⟩
      case gd => dsimp only; omega
    · obtain ⟨n', rfl⟩ : ∃ n', n = n' + 1 := ⟨n - 1, by omega⟩
      rename (¬ (_ < _)) => hlt'
      rename (c[_]? = some _) => e3'
      rename Fr _ _ _ _ => F3
      rename News _ _ _ _ => N3
      rw [t0'] at N3
      rw [t2'] at e3'
      refine' ksw_end (c.set q (_, _), 2 * q + 1 + 1, ?tka2, ?tkb2) F3 N3 (fun _ (h9 : _ ∈ _) => h9) trivial ?ga ?gb ?gc ?gd
      case gb => ksw_same
      case ga => exact List.forall_mem_cons.mpr ⟨by first | rfl | (show some (Value.int _ _) = some (Value.int _ _); rfl), List.forall_mem_cons.mpr ⟨by rfl, List.forall_mem_nil _⟩⟩
      case gc => exact ⟨by dsimp only; rw [List.length_set]; omega, by dsimp only; rw [List.length_set]; omega, n', by dsimp only; omega, by rw [← hsu]; exact (su_step ltT (by omega) (pick_r ltT (a := (_, _)) (b := (_, _)) (by rw [← t1']; assumption) (by rw [← t2']; assumption) (fun e9 => hlt' (of_decide_eq_true e9))) e3').symm⟩
      case gd => dsimp only; omega
    · obtain ⟨n', rfl⟩ : ∃ n', n = n' + 1 := ⟨n - 1, by omega⟩
      rename (c[_]? = some _) => e3'
      rename Fr _ _ _ _ => F3
      rename News _ _ _ _ => N3
      rw [t0'] at N3
      rw [t1'] at e3'
      refine' ksw_end (c.set q (_, _), 2 * q + 1, ?tka3, ?tkb3) F3 N3 (fun _ (h9 : _ ∈ _) => h9) trivial ?ga ?gb ?gc ?gd
      case gb => ksw_same
      case ga => exact List.forall_mem_cons.mpr ⟨by first | rfl | (show some (Value.int _ _) = some (Value.int _ _); rfl), List.forall_mem_cons.mpr ⟨by rfl, List.forall_mem_nil _⟩⟩
      case gc => exact ⟨by dsimp only; rw [List.length_set]; omega, by dsimp only; rw [List.length_set]; omega, n', by dsimp only; omega, by rw [← hsu]; exact (su_step ltT (by omega) (pick_n ltT (by omega)) e3').symm⟩
      case gd => dsimp only; omega
    · rename (_ ∧ _) => P
      obtain ⟨rfl, rfl⟩ := P
      refine hret _ _ _ _ ⟨rfl, ?_⟩ (by assumption) (by assumption)
      rw [su_stop ltT (by omega)] at hsu
      unfold siftup
      rw [e1, ← hsu]
      rfl
end
section
local macro_rules | `(tactic| k_all) => `(tactic| assumption)
local macro_rules | `(tactic| walk_at "subscriptTail") => `(tactic| (k_here; (with_reducible show wpAny _ _ (subscriptTail _ _ (Value.ref _) (Value.int _ _)) _ _ _); k_dflt (refine' item_S ?k1 ?k2 ?k3 ?k4 ?k5 ?_ ?k7 ?k8; (case k1 => k_asm); (case k2 => k_mem); (case k3 => omega); (case k4 => omega); (case k5 => omega); (case k7 => with_unfolding_all rfl); (case k8 => intro _; with_unfolding_all rfl); k_whole); intro ix' it' ie'))
local macro_rules | `(tactic| walk_at "setItem ref int") => `(tactic| (k_here; (with_reducible show wpAny _ _ (setItem (Value.ref _) (Value.int _ _) (Value.str _ _)) _ _ _); k_dflt (refine' set_S ?k1 ?k2 ?k3 ?k4 ?k5 ?k6 ?_; (case k1 => k_asm); (case k2 => k_asm); (case k3 => k_upd); (case k4 => omega); (case k5 => omega); (case k6 => omega); k_whole); intro h' F' N'; (try k_sweep)))
local macro_rules | `(tactic| walk_at "binaryOp RShift int int") => `(tactic| (k_here; with_reducible refine shr1 (by assumption) ?_))
local macro_rules | `(tactic| walk_at "call builtin:list.append") => `(tactic| (k_here; (with_reducible show wpAny _ _ (call (Value.builtin _) [Value.ref _, Value.str _ _]) _ _ _); k_dflt (refine' append_S ?k1 ?k2 ?k3 ?k4 ?_; (case k1 => k_asm); (case k2 => k_asm); (case k3 => k_upd); (case k4 => (rw [sizeLine_eq]; omega)); k_whole); intro h' F' N'; (try k_sweep)))
local macro_rules | `(tactic| walk_at "call builtin:len") => `(tactic| (k_here; (with_reducible show wpAny _ _ (call (Value.builtin "len") [Value.ref _]) _ _ _); k_dflt (refine' len_S ?k1 ?k2 ?k3 ?_; (case k1 => k_asm); (case k2 => k_mem); (case k3 => (try simp only [List.length_append, List.length_cons, List.length_nil]); omega); k_whole)))
local macro_rules | `(tactic| walk_at "truthy ref") => `(tactic| (k_here; (with_reducible show wpAny _ _ (truthy (Value.ref _)) _ _ _); k_dflt (refine' truthy_S ?k1 ?k2 ?k3 ?_; (case k1 => k_asm); (case k2 => k_mem); (case k3 => (try simp only [List.length_append, List.length_cons, List.length_nil]); omega); k_whole)))
local macro_rules | `(tactic| walk_at "call builtin:list.pop") => `(tactic| (k_here; (with_reducible show wpAny _ _ (call (Value.builtin "list.pop") [Value.ref _]) _ _ _); k_dflt (refine' pop_S ?k1 ?k2 ?k3 ?k4 ?_; (case k1 => k_asm); (case k2 => k_asm); (case k3 => k_upd); (case k4 => (rw [sizeLine_eq]; omega)); k_whole); intro h' F' N'; (try k_sweep)))
local macro_rules | `(tactic| walk_at "call ref") => `(tactic| (k_here; (with_reducible show wpAny _ _ (call (Value.ref 49) _) _ _ _); k_dflt (refine' spec_use (su_spec _ _ _ _ _ _ ?c1 ?c2 ?c3) ?k1 ?k2 ?k3 ?k4 ?k5 ?k6 ?k7 ?k8 ?_; (case k1 => k_asm); (case k2 => k_asm); (case k3 => k_asm); (case k4 => k_asm); (case k5 => k_asm); (case k6 => exact rfl); (case k7 => ktr_room); (case k8 => ktr_units); (case c1 => assumption); (case c2 => ((try simp only [List.length_append, List.length_cons, List.length_nil, List.length_set]); omega)); (case c3 => ((try simp only [List.length_append, List.length_cons, List.length_nil, List.length_set]); omega))); intro r' news' h' tk' P' F' N'; obtain ⟨e1', e2'⟩ := P'; subst e1'; subst e2'))
theorem pop_spec (w : World) (l : Addr) (its : List ST) (ep : Nat) (rest : Led) (x : Str) (t : Tok) (hr : ∀ q ∈ rest, q.1 ≠ l) (hz : its.length < 900) :
    CallSpec w 35 [.ref l] ((l, listOf (strL (its ++ [(x, t)])).toArray ep) :: rest) 3 24 (fun r news' => (∃ y, (its ++ [(x, t)])[0]? = some y ∧ r = strV y) ∧ news' = (l, listOf (strL (popL ltT (its ++ [(x, t)]))).toArray (ep + 1)) :: rest) := by
  w_top off
  unfold CallSpec
  k_fill
  intro mean mg mb dp un gd cn cs a ccd cl outer A₀ base h₀ L m s Q E B F X N T hk hd hu hret
  refine wpAny_call ?_
  k_dflt ktr_enter
  (repeat' ((fail_if_success (with_reducible show wpAny _ _ (exec (Stmt.While _ _ _ _) _) _ _ _)); (fail_if_success (with_reducible show KswEnd _ _ _ _ _ _ _ _ _ _ _ _)); (first | (k_unfold; (try dsimp only)) | (k_end; wrow_close) | walk1 | (dsimp only; walk1) | (dsimp only [List.cons_append, List.nil_append]; walk1) | (leave1; walk_say "STEP leave1"; try dsimp only) | fail "no step")))
  · rename (its[_]? = some _) => e1
    rename (0 < _) => hpos
    rename News h₀ L _ _ => N3
    obtain ⟨y, r, rfl⟩ : ∃ y r, its = y :: r := by
      cases its with
      | nil => exact absurd hpos (by simp)
      | cons y r => exact ⟨y, r, rfl⟩
    refine hret _ _ _ _ ⟨⟨y, rfl, ?_⟩, rfl⟩ (by assumption) ?_
    · have e9 : some y = some _ := e1
      cases e9
      rfl
    · have e9 : popL ltT (y :: r ++ [(x, t)]) = siftup ltT ((x, t) :: r) := by
        unfold popL
        rw [List.getLast?_append]
        simp [List.dropLast_concat]
        rw [show y :: (r ++ [(x, t)]) = (y :: r) ++ [(x, t)] from rfl, List.dropLast_concat]
      rw [e9]
      exact N3
  · rename (¬ _) => hpos
    rename News h₀ L _ _ => N3
    obtain rfl : its = [] := by
      cases its with
      | nil => rfl
      | cons y r => exact absurd (by simp) hpos
    exact hret _ _ _ _ ⟨⟨(x, t), rfl, rfl⟩, rfl⟩ (by assumption) N3
end
/-- what a turn of a for loop must leave -/
def FlEnd {σ : Type} (h₀ : Heap) (L : Addr) (s : Shared) (I : Addr) (it : Obj) (Ld : σ → Led) (ps : σ → List (Str × Value)) (stored : List Str) (m₀ : Str → Option Value) (P : σ → Prop) (s₂ : Shared) : Prop :=
  ∃ (c' : σ) (h' : Heap) (tk : Nat) (m' : Str → Option Value) (news' : Led), s₂ = { s with heap := h', toks := tk } ∧ Fr h₀ L h' m' ∧ News h₀ L h' news' ∧ (∀ p ∈ (I, it) :: Ld c', p ∈ news') ∧ (∀ p ∈ Ld c', p.1 ≠ I) ∧ (∀ p ∈ ps c', m' p.1 = some p.2) ∧ (∀ z, (∀ p ∈ ps c', z ≠ p.1) → stored.contains z = false → m' z = m₀ z) ∧ P c'
def FlPost {σ : Type} (h₀ : Heap) (L : Addr) (s : Shared) (I : Addr) (it : Obj) (Ld : σ → Led) (ps : σ → List (Str × Value)) (stored : List Str) (m₀ : Str → Option Value) (P : σ → Prop) (Q : Flow → Shared → Prop) (f : Flow) (s₂ : Shared) : Prop :=
  match f with
  | .ret v => Q (.ret v) s₂
  | .brk => Q .next s₂
  | _ => FlEnd h₀ L s I it Ld ps stored m₀ P s₂
theorem fl_end {σ : Type} {h₀ : Heap} {L : Addr} {s : Shared} {I : Addr} {it : Obj} {Ld : σ → Led} {ps : σ → List (Str × Value)} {stored : List Str} {m₀ m' : Str → Option Value} {P : σ → Prop} {h' : Heap} {tk : Nat} {news' : Led} (c' : σ)
    (F : Fr h₀ L h' m') (N : News h₀ L h' news') (hn : ∀ p ∈ (I, it) :: Ld c', p ∈ news') (ho : ∀ p ∈ Ld c', p.1 ≠ I) (hk : ∀ p ∈ ps c', m' p.1 = some p.2) (hr : ∀ z, (∀ p ∈ ps c', z ≠ p.1) → stored.contains z = false → m' z = m₀ z) (hp : P c') :
    FlEnd h₀ L s I it Ld ps stored m₀ P { s with heap := h', toks := tk } := ⟨c', h', tk, m', news', rfl, F, N, hn, ho, hk, hr, hp⟩

section
variable {prog : Program} {w : World} {A : Around} {E : Value → Shared → Prop} {s : Shared} {env : Env} {h₀ : Heap} {x : Str} {body : List Stmt} {Q : Flow → Shared → Prop}

theorem fl_list {σ : Type} {ax : Addr} {lo : Obj} {vs : List Value} {n : Nat} {m₀ : Str → Option Value} (Ld : σ → Led) (ps : σ → List (Str × Value)) (stored : List Str) (P : List Value → σ → Prop) (c₀ : σ)
    (hh : A.handled = none) (F : Fr h₀ env.locals s.heap m₀) (N : News h₀ env.locals s.heap (Ld c₀)) (hm : ∀ c, (ax, lo) ∈ Ld c) (hc : lo.cls = .type "list") (hd : lo.data = .seq vs.toArray n)
    (hk : ∀ p ∈ ps c₀, m₀ p.1 = some p.2) (hp : P vs c₀)
    (turn : ∀ (I : Addr) (it : Obj) (v : Value) (r : List Value) (c : σ) (u : Str → Option Value) h tk, (∀ p ∈ Ld c₀, p.1 < I) → P (v :: r) c → it.cls = .type "list_iterator" → Fr h₀ env.locals h (fun y => if y = x then some v else kstB (fun z => if stored.contains z then u z else m₀ z) (ps c) y) → News h₀ env.locals h ((I, it) :: Ld c) →
      wpAny (model prog w) A (execs body env) (FlPost h₀ env.locals s I it Ld ps stored m₀ (P r) Q) E { s with heap := h, toks := tk })
    (done : ∀ (c : σ) (u : Str → Option Value) h tk, P [] c → Fr h₀ env.locals h (kstB (fun z => if stored.contains z then u z else m₀ z) (ps c)) → News h₀ env.locals h (Ld c) → Q .next { s with heap := h, toks := tk }) :
    wpAny (model prog w) A (pyIter (.ref ax)) (fun it s₂ => LoopAtV prog w A h₀ env x body Q E it s₂) E s := by
  refine iter_listUnr hh F N (hm c₀) hc hd fun I hI => ?_
  have key : ∀ (r : List Value) (c : σ) (m : Str → Option Value), P r c → (∀ p ∈ ps c, m p.1 = some p.2) → (∀ z, (∀ p ∈ ps c, z ≠ p.1) → stored.contains z = false → m z = m₀ z) → ListRest prog w A E h₀ env x body Q s I (ax, lo) r m (Ld c) := by
    intro r
    induction r with
    | nil =>
      intro c m hP h1 h2
      refine ListRest.zero fun h tk F' N' => ?_
      exact done c m h tk hP (ksw_fr h1 h2 F') N'
    | cons v r ih =>
      intro c m hP h1 h2
      refine ListRest.succ fun it h tk hit F' N' => ?_
      have em : kstB (fun z => if stored.contains z then m z else m₀ z) (ps c) = m := by
        funext y
        refine kstB_eq h1 fun hn => ?_
        show (if stored.contains y = true then m y else m₀ y) = m y
        cases h3 : stored.contains y with
        | true => simp
        | false => simp only [Bool.false_eq_true, if_false]; exact (h2 y hn h3).symm
      refine wpAny_mono (turn I it v r c m h tk hI hP hit (by rw [em]; exact F') N') (fun f s₂ q => ?_) fun _ _ e => e
      have fin : FlEnd h₀ env.locals s I it Ld ps stored m₀ (P r) s₂ → UnrEnd h₀ env.locals { s with heap := h, toks := tk } I it (fun m' n' => (ax, lo) ∈ n' ∧ ListRest prog w A E h₀ env x body Q s I (ax, lo) r m' n') s₂ := by
        rintro ⟨c', h', tk', m', news', rfl, F', N', hn, ho, hk', hr', hp'⟩
        exact ⟨h', tk', m', Ld c', rfl, F', fun p hp => N' p (hn p hp), ho, hm c', ih c' m' hp' hk' hr'⟩
      cases f with
      | ret v => exact q
      | brk => exact q
      | next => exact fin q
      | cont => exact fin q
  exact key vs c₀ m₀ hp hk fun _ _ _ => rfl
end

section
variable {prog : Program} {w : World} {A : Around} {E : Value → Shared → Prop} {s : Shared} {h₀ : Heap} {L D : Addr} {m : Str → Option Value} {news news' : List (Addr × Obj)} {its : List ST} {n : Nat} {k : Int} {t u : Tok}
theorem item_S1 {x : Str} {value slice : PySem.Expr} {Q : Value → Shared → Prop} (N : News h₀ L s.heap news) (hm : (D, listOf (strL its).toArray n) ∈ news) (h0 : 0 ≤ k) (hx : its[k.toNat]? = some (x, t)) (hz : its.length < 2 ^ 62)
    (h : Q (.str x t) s)
    (hs : subscripted slice false (.ref D) (.int k u) = operate [.ref D, .int k u] (getItem (.ref D) (.int k u)) := by with_unfolding_all rfl) (hg : ∀ r, letTemporaryGo value (.ref D) r = pure () := by intro _; with_unfolding_all rfl) :
    wpAny (model prog w) A (subscriptTail value slice (.ref D) (.int k u)) Q E s := by
  have hlt : k.toNat < its.length := (List.getElem?_eq_some_iff.mp hx).1
  refine item_S N hm h0 (by omega) hz (fun x' t' e => ?_) hs hg
  rw [hx] at e
  cases e
  exact h
theorem item_S9 {x : Str} {value slice : PySem.Expr} {Q : Value → Shared → Prop} (N : News h₀ L s.heap news) (hm : (D, listOf (strL its).toArray n) ∈ news) (hx : its[its.length - 1]? = some (x, t)) (hz : its.length < 2 ^ 62)
    (h : Q (.str x t) s)
    (hs : subscripted slice false (.ref D) (.int (-1) u) = operate [.ref D, .int (-1) u] (getItem (.ref D) (.int (-1) u)) := by with_unfolding_all rfl) (hg : ∀ r, letTemporaryGo value (.ref D) r = pure () := by intro _; with_unfolding_all rfl) :
    wpAny (model prog w) A (subscriptTail value slice (.ref D) (.int (-1) u)) Q E s := by
  have hlt : its.length - 1 < its.length := (List.getElem?_eq_some_iff.mp hx).1
  have hl : (strL its).length = its.length := List.length_map ..
  refine kim_back N hm rfl rfl (by decide) (by rw [hl]; omega) (by decide) (x := .str x t) ?_ h hs hg
  rw [hl, show ((-1 : Int) + (its.length : Int)).toNat = its.length - 1 from by omega, List.getElem?_map, hx]
  rfl
end

section
open PySem.Builtin PySem.Builtin.Str
theorem gives_find4 (x y : Str) (i : Nat) (t u v z : Tok) : Gives («str.find» ⟨[.str x t, .str y u, .int (i : Int) v, .int (x.length : Int) z], []⟩) (.int (match occurrences x y i x.length 1 with | k :: _ => (k : Int) | [] => -1)) := by
  show Gives (match occurrences x y (fromIndex x.length (i : Int)) (min (fromIndex x.length (x.length : Int)) x.length) 1 with | k :: _ => retInt k | [] => (do rule "str.find.not-found"; retInt (-1))) _
  have e1 : fromIndex x.length (i : Int) = i := by unfold fromIndex; rw [if_neg (by omega)]; omega
  have e2 : fromIndex x.length (x.length : Int) = x.length := by unfold fromIndex; rw [if_neg (by omega)]; omega
  rw [e1, e2, Nat.min_self]
  cases occurrences x y i x.length 1 with
  | nil => exact .rule (.of_eq rfl)
  | cons k _ => exact .of_eq rfl
theorem find_S {prog : Program} {w : World} {A : Around} {E : Value → Shared → Prop} {s : Shared} {x y : Str} {t u v z : Tok} {i : Nat} {Q : Value → Shared → Prop}
    (h1 : ∀ k r, occurrences x y i x.length 1 = k :: r → Q (.int (k : Int) s.toks) { s with toks := s.toks + 1 }) (h2 : occurrences x y i x.length 1 = [] → Q (.int (-1) s.toks) { s with toks := s.toks + 1 }) :
    wpAny (model prog w) A (call (.builtin "str.find") [.str x t, .str y u, .int (i : Int) v, .int (x.length : Int) z]) Q E s := by
  refine call_gives F.slot_str_find (typeIs_str _ _ _) F.entry_str_find (F.args_str_find_4 _ _ _ _) (gives_find4 x y i t u v z) ?_
  show Q (.int (match occurrences x y i x.length 1 with | k :: _ => (k : Int) | [] => -1) s.toks) { s with toks := s.toks + 1 }
  cases e : occurrences x y i x.length 1 with
  | nil => exact h2 e
  | cons k r => exact h1 k r e
end
def ellLoop (g : Str) : List Str → Nat → Bool
  | [], _ => true
  | w :: ws, c => match PySem.Builtin.Str.occurrences g w c g.length 1 with
    | k :: _ => ellLoop g ws (k + w.length)
    | [] => false
section
local macro_rules | `(tactic| walk_at "FlPost") => `(tactic| (dsimp only [FlPost]))
local macro_rules | `(tactic| walk_at "call builtin:len") => `(tactic| (k_here; (with_reducible show wpAny _ _ (call (Value.builtin "len") [Value.ref _]) _ _ _); k_dflt (refine' len_S ?k1 ?k2 ?k3 ?_; (case k1 => k_asm); (case k2 => k_mem); (case k3 => (try simp only [List.length_append, List.length_cons, List.length_nil]); omega); k_whole)))
local macro_rules | `(tactic| walk_at "subscriptTail Name Constant ref int") => `(tactic| (k_here; (with_reducible show wpAny _ _ (subscriptTail _ _ (Value.ref _) (Value.int _ _)) _ _ _); k_dflt (first
  | (refine' item_S1 ?k1 ?k2 ?k3 ?k4 ?k5 ?_ ?k7 ?k8; (case k1 => k_asm); (case k2 => k_mem); (case k3 => omega); (case k4 => assumption); (case k5 => omega); (case k7 => with_unfolding_all rfl); (case k8 => intro _; with_unfolding_all rfl); k_whole)
  | (refine' item_S9 ?k1 ?k2 ?k4 ?k5 ?_ ?k7 ?k8; (case k1 => k_asm); (case k2 => k_mem); (case k4 => assumption); (case k5 => omega); (case k7 => with_unfolding_all rfl); (case k8 => intro _; with_unfolding_all rfl); k_whole))))
local macro_rules | `(tactic| walk_at "subscriptTail Name UnaryOp ref int") => `(tactic| (k_here; (with_reducible show wpAny _ _ (subscriptTail _ _ (Value.ref _) (Value.int _ _)) _ _ _); k_dflt (first
  | (refine' item_S1 ?k1 ?k2 ?k3 ?k4 ?k5 ?_ ?k7 ?k8; (case k1 => k_asm); (case k2 => k_mem); (case k3 => omega); (case k4 => assumption); (case k5 => omega); (case k7 => with_unfolding_all rfl); (case k8 => intro _; with_unfolding_all rfl); k_whole)
  | (refine' item_S9 ?k1 ?k2 ?k4 ?k5 ?_ ?k7 ?k8; (case k1 => k_asm); (case k2 => k_mem); (case k4 => assumption); (case k5 => omega); (case k7 => with_unfolding_all rfl); (case k8 => intro _; with_unfolding_all rfl); k_whole))))
local macro_rules | `(tactic| walk_at "call builtin:str.find") => `(tactic| (k_here; (with_reducible show wpAny _ _ (call (Value.builtin "str.find") [_, _, _, _]) _ _ _); k_dflt (refine' find_S ?_ ?_); all_goals intros))
theorem split_shape {l : List ST} {mid : List Str} {a b : Str} (h : l.map (fun x => x.fst) = a :: (mid ++ [b])) : ∃ t0 lm t1, l = (a, t0) :: (lm ++ [(b, t1)]) ∧ lm.map (fun x => x.fst) = mid := by
  cases l with
  | nil => cases h
  | cons p r =>
    obtain ⟨p1, p2⟩ := p
    rw [List.map_cons] at h
    injection h with h1 h2
    dsimp only at h1
    subst h1
    obtain ⟨l1, l2, rfl, h3, h4⟩ := List.map_eq_append_iff.mp h2
    match l2, h4 with
    | [(q1, q2)], h4 =>
      simp at h4
      subst h4
      exact ⟨p2, l1, q2, rfl, h3⟩
theorem ell_spec (w : World) (P g : Str) (tp tg : Tok) (rest : Led) (mid : List Str) (hg : g.length < 1000) (hP : P.length < 1000) (hin : (Builtin.Str.occurrences P (Str.ofString "...") 0 P.length 1).isEmpty = false)
    (hsp : Txt.split P (Str.ofString "...") = Str.ofString "" :: (mid ++ [Str.ofString ""])) (hmid : mid.length < 100) :
    CallSpec w 21 [.str P tp, .str g tg] rest 1 8 (fun r news' => r = .bool (ellLoop g (Str.ofString "" :: (mid ++ [Str.ofString ""])) 0) ∧ news' = rest) := by
  w_top off
  unfold CallSpec
  k_fill
  intro mean mg mb dp un gd cn cs a ccd cl outer A₀ base h₀ L m s Q E B F X N T hk hd hu hret
  refine wpAny_call ?_
  k_dflt ktr_enter
  (repeat' ((fail_if_success (with_reducible show wpAny _ _ (exec (Stmt.While _ _ _ _) _) _ _ _)); (fail_if_success (with_reducible show wpAny _ _ (exec (Stmt.For _ _ _ _ _) _) _ _ _)); (fail_if_success (with_reducible show wpAny _ _ (pyIter _) _ _ _)); (fail_if_success (with_reducible show wpAny _ _ (call (Value.builtin "str.split") _) _ _ _)); (fail_if_success (with_reducible show KswEnd _ _ _ _ _ _ _ _ _ _ _ _)); (fail_if_success (with_reducible show FlEnd _ _ _ _ _ _ _ _ _ _ _)); (first | (k_unfold; (try dsimp only)) | (k_end; wrow_close) | walk1 | (dsimp only; walk1) | (dsimp only [List.cons_append, List.nil_append]; walk1) | (leave1; walk_say "STEP leave1"; try dsimp only) | fail "no step")))
  walk1
  rename (_ = Txt.split _ _) => hl
  rename List (Str × Tok) => its
  rename (∀ a : Str, a ∈ _ → _) => hsz
  rename StrsAre _ _ => hsa
  rename Heap.IsList _ _ _ => hil
  clear hsa hil
  rw [hsp] at hl
  have hlen : its.length = mid.length + 2 := by rw [← List.length_map (f := fun (x : Str × Tok) => x.fst), hl]; simp
  obtain ⟨ta, ha⟩ : ∃ ta, its[(0 : Int).toNat]? = some (Str.ofString "", ta) := by
    obtain ⟨ta, lm, tb, rfl, hlm⟩ := split_shape hl
    exact ⟨ta, rfl⟩
  obtain ⟨tb, hb⟩ : ∃ tb, its[its.length - 1]? = some (Str.ofString "", tb) := by
    obtain ⟨ta, lm, tb, rfl, hlm⟩ := split_shape hl
    exact ⟨tb, by simp⟩
  rename Fr _ _ _ _ => F1
  rename News _ _ _ _ => N1
  dsimp only at N1 F1 ⊢
  generalize Array.size _ = D at N1 ⊢
  have N2 : News _ _ _ ((D, listOf (strL its).toArray 0) :: rest) := N1
  clear N1
  try k_fold
  (repeat' ((fail_if_success (with_reducible show wpAny _ _ (exec (Stmt.While _ _ _ _) _) _ _ _)); (fail_if_success (with_reducible show wpAny _ _ (exec (Stmt.For _ _ _ _ _) _) _ _ _)); (fail_if_success (with_reducible show wpAny _ _ (pyIter _) _ _ _)); (fail_if_success (with_reducible show wpAny _ _ (call (Value.builtin "str.split") _) _ _ _)); (fail_if_success (with_reducible show KswEnd _ _ _ _ _ _ _ _ _ _ _ _)); (fail_if_success (with_reducible show FlEnd _ _ _ _ _ _ _ _ _ _ _)); (first | (k_unfold; (try dsimp only)) | (k_end; wrow_close) | walk1 | (dsimp only; walk1) | (dsimp only [List.cons_append, List.nil_append]; walk1) | (leave1; walk_say "STEP leave1"; try dsimp only) | fail "no step")))
  rename Fr _ _ _ _ => F5
  rename News _ _ _ _ => N5
  refine For_invVF F5 rfl rfl ?_
  walk1
  refine' fl_list (σ := Nat × Tok) (fun _ => (D, listOf (strL its).toArray 0) :: rest) (fun c => [(Str.ofString "startpos", .int (c.1 : Int) c.2)]) [Str.ofString "w"] (fun r c => ∃ lr : List ST, r = strL lr ∧ (∀ p ∈ lr, p.1.length < 1000) ∧ ellLoop g (lr.map (·.1)) c.1 = ellLoop g (Str.ofString "" :: (mid ++ [Str.ofString ""])) 0) (0, ?tok) rfl F5 (fun p hp => N5 p (List.mem_cons_of_mem _ hp)) (fun _ => List.mem_cons_self) rfl rfl ?g1 ?g2 ?g3 ?g4
  case g1 => exact List.forall_mem_cons.mpr ⟨by rfl, List.forall_mem_nil _⟩
  case g2 =>
    refine ⟨its, rfl, ?_, by rw [hl]⟩
    intro p hp
    have : p.1 ∈ List.map (fun x => x.fst) its := List.mem_map.mpr ⟨p, hp, rfl⟩
    exact Nat.lt_of_le_of_lt (hsz p.1 this) hP
  case g3 =>
    rintro I it v r ⟨c, tc⟩ u h tk hI ⟨lr, elr, hlr, hrec⟩ hit F6 N6
    cases lr with
    | nil => cases elr
    | cons p lr' =>
    obtain ⟨x, t⟩ := p
    injection elr with e1 e2
    subst e1 e2
    have hx := hlr (x, t) List.mem_cons_self
    dsimp only [kstB, strV] at F6 N6 hx hrec
    try k_fold
    (repeat' ((fail_if_success (with_reducible show wpAny _ _ (exec (Stmt.While _ _ _ _) _) _ _ _)); (fail_if_success (with_reducible show wpAny _ _ (exec (Stmt.For _ _ _ _ _) _) _ _ _)); (fail_if_success (with_reducible show wpAny _ _ (pyIter _) _ _ _)); (fail_if_success (with_reducible show wpAny _ _ (call (Value.builtin "str.split") _) _ _ _)); (fail_if_success (with_reducible show KswEnd _ _ _ _ _ _ _ _ _ _ _ _)); (fail_if_success (with_reducible show FlEnd _ _ _ _ _ _ _ _ _ _ _)); (first | (k_unfold; (try dsimp only)) | (k_end; wrow_close) | walk1 | (dsimp only; walk1) | (dsimp only [List.cons_append, List.nil_append]; walk1) | (leave1; walk_say "STEP leave1"; try dsimp only) | fail "no step")))
    · rename (_ = _ :: _) => hocc
      rename Fr _ _ _ _ => F7
      rename News _ _ _ _ => N7
      refine' fl_end (_ + x.length, ?tok2) F7 N7 (fun _ (h9 : _ ∈ _) => h9) (fun p hp => Nat.ne_of_lt (hI p hp)) ?ga ?gb ?gc
      case gb => ksw_same
      case ga => exact List.forall_mem_cons.mpr ⟨by rfl, List.forall_mem_nil _⟩
      case gc =>
        refine ⟨lr', rfl, fun p hp => hlr p (List.mem_cons_of_mem _ hp), ?_⟩
        rw [← hrec]
        show _ = ellLoop g (x :: lr'.map (·.1)) c
        rw [ellLoop, hocc]
    · rename (_ = []) => hocc
      rename News h₀ L _ _ => N7
      refine hret _ _ _ _ ⟨?_, rfl⟩ (by assumption) (fun p hp => N7 p (List.mem_cons_of_mem _ (List.mem_cons_of_mem _ hp)))
      rw [← hrec]
      show _ = Value.bool (ellLoop g (x :: lr'.map (·.1)) c)
      rw [ellLoop, hocc]
  case g4 =>
    rintro ⟨c, tc⟩ u h tk ⟨lr, elr, hlr, hrec⟩ F6 N6
    dsimp only [kstB] at F6 N6
    try k_fold
    (repeat' ((fail_if_success (with_reducible show wpAny _ _ (exec (Stmt.While _ _ _ _) _) _ _ _)); (fail_if_success (with_reducible show wpAny _ _ (exec (Stmt.For _ _ _ _ _) _) _ _ _)); (fail_if_success (with_reducible show wpAny _ _ (pyIter _) _ _ _)); (fail_if_success (with_reducible show wpAny _ _ (call (Value.builtin "str.split") _) _ _ _)); (fail_if_success (with_reducible show KswEnd _ _ _ _ _ _ _ _ _ _ _ _)); (fail_if_success (with_reducible show FlEnd _ _ _ _ _ _ _ _ _ _ _)); (first | (k_unfold; (try dsimp only)) | (k_end; wrow_close) | walk1 | (dsimp only; walk1) | (dsimp only [List.cons_append, List.nil_append]; walk1) | (leave1; walk_say "STEP leave1"; try dsimp only) | fail "no step")))
    cases lr with
    | cons p lr' => cases elr
    | nil =>
    rename News h₀ L _ _ => N7
    refine hret _ _ _ _ ⟨by rw [← hrec]; rfl, rfl⟩ (by assumption) (fun p hp => N7 p (List.mem_cons_of_mem _ hp))
end
section
variable {prog : Program} {w : World} {A : Around} {E : Value → Shared → Prop} {s : Shared} {env : Env} {h₀ : Heap} {target : Expr} {body : List Stmt} {Q : Flow → Shared → Prop}

theorem fl_rest {σ : Type} {I : Addr} {cls : String} {keep : Led} {m₀ : Str → Option Value} (Ld : σ → Led) (ps : σ → List (Str × Value)) (stored : List Str) (P : List Itm → σ → Prop) (c₀ : σ) (xs : List Itm)
    (hkeep : ∀ c, SubL keep (Ld c)) (hk : ∀ p ∈ ps c₀, m₀ p.1 = some p.2) (hp : P xs c₀)
    (turn : ∀ (it : Obj) (a : Itm) (r : List Itm) (c : σ) (u : Str → Option Value) (v : Value) h tk, P (a :: r) c → it.cls = .type cls → a.Is v h → Fr h₀ env.locals h (kstB (fun z => if stored.contains z then u z else m₀ z) (ps c)) → News h₀ env.locals h ((I, it) :: Ld c) →
      wpAny (model prog w) A (assign target env v) (fun _ s₂ => wpAny (model prog w) A (execs body env) (FlPost h₀ env.locals s I it Ld ps stored m₀ (P r) Q) E s₂) E { s with heap := h, toks := tk })
    (done : ∀ (c : σ) (u : Str → Option Value) h tk, P [] c → Fr h₀ env.locals h (kstB (fun z => if stored.contains z then u z else m₀ z) (ps c)) → News h₀ env.locals h (Ld c) → Q .next { s with heap := h, toks := tk }) :
    ItemsRest prog w A E h₀ env target body Q s [(I, cls)] keep xs m₀ (Ld c₀) := by
  have key : ∀ (r : List Itm) (c : σ) (m : Str → Option Value), P r c → (∀ p ∈ ps c, m p.1 = some p.2) → (∀ z, (∀ p ∈ ps c, z ≠ p.1) → stored.contains z = false → m z = m₀ z) → ItemsRest prog w A E h₀ env target body Q s [(I, cls)] keep r m (Ld c) := by
    intro r
    induction r with
    | nil =>
      intro c m hP h1 h2
      refine ItemsRest.zero fun h tk F' N' => ?_
      exact done c m h tk hP (ksw_fr h1 h2 F') N'
    | cons a r ih =>
      intro c m hP h1 h2
      intro v h tk hv F'
      refine AllObj.cons fun it hit => AllObj.nil fun N' => ?_
      have em : kstB (fun z => if stored.contains z then m z else m₀ z) (ps c) = m := by
        funext y
        refine kstB_eq h1 fun hn => ?_
        show (if stored.contains y = true then m y else m₀ y) = m y
        cases h3 : stored.contains y with
        | true => simp
        | false => simp only [Bool.false_eq_true, if_false]; exact (h2 y hn h3).symm
      refine wpAny_mono (turn it a r c m v h tk hP hit hv (by rw [em]; exact F') N') (fun _ s₂ q => wpAny_mono q (fun f s₃ q => ?_) fun _ _ e => e) fun _ _ e => e
      have fin : FlEnd h₀ env.locals s I it Ld ps stored m₀ (P r) s₃ → UnrEndW h₀ env.locals { s with heap := h, toks := tk } [(I, it)] (fun m' n' => SubL keep n' ∧ ItemsRest prog w A E h₀ env target body Q s [(I, cls)] keep r m' n') s₃ := by
        rintro ⟨c', h', tk', m', news', rfl, F', N', hn, ho, hk', hr', hp'⟩
        refine ⟨h', tk', m', Ld c', rfl, F', fun p hp => N' p (hn p hp), fun p hp q hq => ?_, hkeep c', ih c' m' hp' hk' hr'⟩
        rw [List.mem_singleton.mp hq]; exact ho p hp
      cases f with
      | ret v => exact q
      | brk => exact q
      | next => exact fin q
      | cont => exact fin q
  exact key xs c₀ m₀ hp hk fun _ _ _ => rfl
end
def encD (kv : List (Str × Int)) : List (PyData × PyData) := kv.map fun p => (PyData.str p.1, PyData.int p.2)
def encI (kv : List (Int × Int)) : List (PyData × PyData) := kv.map fun p => (PyData.int p.1, PyData.int p.2)
abbrev PG : Program := PySem.Challenge.rw_pg0125_01.row.prog
def IsD (w : World) (o : Obj) (kv : List (Str × Int)) : Prop := ∃ kvs, o.IsDictOf (strKind PySem.Challenge.rw_pg0125_01.row.prog w) kvs ∧ PyProof.V.FlatPairs PyData.str kvs (encD kv)
def putKV {K : Type} [DecidableEq K] (kv : List (K × Int)) (k : K) (v : Int) : List (K × Int) :=
  if kv.any (fun p => decide (p.1 = k)) then kv.map (fun p => if p.1 = k then (p.1, v) else p) else kv ++ [(k, v)]
def getKV {K : Type} [DecidableEq K] (kv : List (K × Int)) (k : K) : Option Int := (kv.find? fun p => decide (p.1 = k)).map (·.2)
theorem encD_put (kv : List (Str × Int)) (k : Str) (v : Int) : PyProof.V.putD (PyData.str k) (PyData.int v) (encD kv) = encD (putKV kv k v) := by
  unfold PyProof.V.putD putKV encD
  have e1 : (kv.map fun p => (PyData.str p.1, PyData.int p.2)).any (fun p => PySem.Spec.same p.1 (PyData.str k)) = kv.any (fun p => decide (p.1 = k)) := by
    rw [List.any_map]
    rfl
  rw [e1]
  split
  · rw [List.map_map, List.map_map]
    congr 1
    funext p
    show (if PySem.Spec.same (PyData.str p.1) (PyData.str k) = true then _ else _) = _
    rw [PyProof.V.same_str]
    by_cases h : p.1 = k <;> simp [h]
  · simp
theorem encD_lookup (kv : List (Str × Int)) (k : Str) : PySem.Spec.lookup (PyData.str k) (encD kv) = (getKV kv k).map PyData.int := by
  induction kv with
  | nil => rfl
  | cons p r ih =>
    obtain ⟨a, b⟩ := p
    show (if PySem.Spec.same (PyData.str a) (PyData.str k) = true then some (PyData.int b) else PySem.Spec.lookup (PyData.str k) (encD r)) = _
    rw [PyProof.V.same_str, ih]
    by_cases h : a = k
    · simp [getKV, h]
    · simp [getKV, h]
theorem putKV_length {K : Type} [DecidableEq K] (kv : List (K × Int)) (k : K) (v : Int) : (putKV kv k v).length ≤ kv.length + 1 := by
  unfold putKV
  split
  · rw [List.length_map]; omega
  · simp
section
variable {w : World} {A : Around} {E : Value → Shared → Prop} {s : Shared} {h₀ : Heap} {L d : Addr} {m : Str → Option Value} {news : Led} {g : Obj → Led} {o : Obj} {kv : List (Str × Int)}
theorem setD {k : Str} {v : Int} {t u : Tok} {Q : Unit → Shared → Prop} (F : Fr h₀ L s.heap m) (N : News h₀ L s.heap news) (U : UpdF d o news g) (D : IsD w o kv) (hz : kv.length < 1000)
    (h : ∀ h' o', Fr h₀ L h' m → News h₀ L h' (g o') → IsD w o' (putKV kv k v) → Q () { s with heap := h', toks := s.toks + 1 }) :
    wpAny (model PySem.Challenge.rw_pg0125_01.row.prog w) A (setItem (.ref d) (.str k t) (.int v u)) Q E s := by
  obtain ⟨kvs, hd, hf⟩ := D
  refine setItem_K PyProof.V.same_str (strKind_is _ _ _ _) (PyProof.V.Flat.int v u) F N U hd hf (fun h' o' F' N' hd' hf' => h h' o' F' N' ⟨_, hd', ?_⟩) ?_
  · rw [encD_put] at hf'; exact hf'
  · unfold encD; rw [List.length_map, sizeLine_eq]; omega
theorem tabD (N : News h₀ L s.heap news) (hm : (d, o) ∈ news) (lo : (d == sysModules) = false) (D : IsD w o kv) : TabAt (strKind PySem.Challenge.rw_pg0125_01.row.prog w) PyData.str s.heap d (encD kv) := by
  obtain ⟨kvs, hd, hf⟩ := D
  exact TabAt.ofNews N hm lo hd hf
theorem inD {k : Str} {t : Tok} {Q : Value → Shared → Prop} (N : News h₀ L s.heap news) (hm : (d, o) ∈ news) (lo : (d == sysModules) = false) (D : IsD w o kv)
    (h : Q (.bool (getKV kv k).isSome) { s with toks := s.toks + 1 }) : wpAny (model PySem.Challenge.rw_pg0125_01.row.prog w) A (compareOp .In (.str k t) (.ref d)) Q E s := by
  refine in_strTab (tabD N hm lo D) ?_
  rw [encD_lookup, Option.isSome_map]; exact h
theorem getD1 {k : Str} {t : Tok} {v : Int} {Q : Value → Shared → Prop} (N : News h₀ L s.heap news) (hm : (d, o) ∈ news) (lo : (d == sysModules) = false) (D : IsD w o kv) (hv : getKV kv k = some v)
    (h : ∀ u, Q (.int v u) { s with toks := s.toks + 1 }) : wpAny (model PySem.Challenge.rw_pg0125_01.row.prog w) A (getItem (.ref d) (.str k t)) Q E s := by
  refine getItem_tab PyProof.V.same_str (strKind_is _ _ _ _) (tabD N hm lo D) (dv := PyData.int v) ?_ ?_
  · rw [encD_lookup, hv]; rfl
  · intro x hx
    obtain ⟨u, rfl⟩ := hx.int_inv
    exact h _
end
section
local macro_rules | `(tactic| walk_at "setItem ref str") => `(tactic| (k_here; (with_reducible show wpAny _ _ (setItem (Value.ref _) (Value.str _ _) (Value.int _ _)) _ _ _); k_dflt (refine' setD ?k1 ?k2 ?k3 ?k4 ?k5 ?_; (case k1 => k_asm); (case k2 => k_asm); (case k3 => k_updF); (case k4 => k_asm); (case k5 => omega)); intro h' o' F' N' D'; (try dsimp only at N'); (try k_sweep)))
local macro_rules | `(tactic| walk_at "compareOp In str ref") => `(tactic| (k_here; k_dflt (refine' inD ?k1 ?k2 ?k3 ?k4 ?_; (case k1 => k_asm); (case k2 => k_mem); (case k3 => k_asm); (case k4 => k_asm); k_whole)))
local macro_rules | `(tactic| walk_at "getItem ref str") => `(tactic| (k_here; k_dflt (refine' getD1 ?k1 ?k2 ?k3 ?k4 ?k5 ?_; (case k1 => k_asm); (case k2 => k_mem); (case k3 => k_asm); (case k4 => k_asm); (case k5 => assumption); k_whole); intro gt'))
def copyKV (a : List (Str × Int)) : List (Str × Int) := a.foldl (fun acc p => putKV acc p.1 p.2) []
def plusKV (acc : List (Str × Int)) (p : Str × Int) : List (Str × Int) := putKV acc p.1 (match getKV acc p.1 with | some v => v + p.2 | none => p.2)
def addC (a b : List (Str × Int)) : List (Str × Int) := b.foldl plusKV (copyKV a)
def itmsD (kv : List (Str × Int)) : List Itm := (encD kv).map (fun p => Itm.pairF (kyVal p.1) p.2)

theorem addc_spec (w : World) (d1 d2 : Addr) (o1 o2 : Obj) (kv1 kv2 : List (Str × Int)) (news : Led) (hm1 : (d1, o1) ∈ news) (hm2 : (d2, o2) ∈ news) (lo1 : (d1 == sysModules) = false) (lo2 : (d2 == sysModules) = false)
    (D1 : IsD w o1 kv1) (D2 : IsD w o2 kv2) (hz1 : kv1.length < 100) (hz2 : kv2.length < 100) :
    CallSpec w 63 [.ref d1, .ref d2] news 1 8 (fun r news' => ∃ d3 o3, r = .ref d3 ∧ news' = (d3, o3) :: news ∧ (∀ p ∈ news, p.1 < d3) ∧ (d3 == sysModules) = false ∧ IsD w o3 (addC kv1 kv2)) := by
  w_top off
  unfold CallSpec
  k_fill
  intro mean mg mb dp un gd cn cs a ccd cl outer A₀ base h₀ L m s Q E B F X N T hk hd hu hret
  refine wpAny_call ?_
  k_dflt ktr_enter
  (repeat' ((fail_if_success (with_reducible show wpAny _ _ (exec (Stmt.While _ _ _ _) _) _ _ _)); (fail_if_success (with_reducible show wpAny _ _ (exec (Stmt.For _ _ _ _ _) _) _ _ _)); (fail_if_success (with_reducible show wpAny _ _ (pyIter _) _ _ _)); (fail_if_success (with_reducible show wpAny _ _ (call (Value.builtin "str.split") _) _ _ _)); (fail_if_success (with_reducible show KswEnd _ _ _ _ _ _ _ _ _ _ _ _)); (fail_if_success (with_reducible show FlEnd _ _ _ _ _ _ _ _ _ _ _)); (first | (k_unfold; (try dsimp only)) | (k_end; wrow_close) | walk1 | (dsimp only; walk1) | (dsimp only [List.cons_append, List.nil_append]; walk1) | (leave1; walk_say "STEP leave1"; try dsimp only) | fail "no step")))
  rename (∀ p ∈ news, p.1 < _) => hlt
  rename ((_ == sysModules) = false) => lo3
  rename Obj.IsDictOf (intKind _ _) _ _ => hi9
  rename Obj.IsDictOf (strKind _ _) _ _ => hs9
  rename Fr _ _ _ _ => F1
  rename News _ _ _ _ => N1
  rename Obj => o3
  have D3 : IsD w o3 [] := ⟨[], hs9, PyProof.V.FlatPairs.nil⟩
  clear hi9 hs9
  rename Addr => d3
  have hne : ∀ p ∈ news, p.1 ≠ d3 := fun p hp => Nat.ne_of_lt (hlt p hp)
  with_unfolding_all refine For_turns F1 ?_
  with_unfolding_all refine MethodCall_ ?_
  k_dflt refine ld F1 (by rfl) ?_
  with_unfolding_all refine getMethod_tab PySem.F.slot_dict_items PySem.F.type_dict_items (tabD N1 (List.mem_cons_of_mem _ hm1) lo1 D1) ?_
  with_unfolding_all refine callWith_method0 ?_
  with_unfolding_all refine call_items_tab (tabD N1 (List.mem_cons_of_mem _ hm1) lo1 D1) F1 N1 ?_
  intro h5 o5 hv5 F5 N5
  replace N5 := kti_tail N5
  with_unfolding_all refine kti_items (xs := itmsD kv1) (by rfl) F5 N5 hv5 (tabD (s := { s with heap := h5 }) N5 (List.mem_cons_of_mem _ hm1) lo1 D1) (List.mem_cons_of_mem _ hm1) (fun _ _ h => Value.isStrOf_shape h) rfl ?_
  intro I hI
  have hI3 := ltN (hI _ List.mem_cons_self)
  dsimp only at hI3
  refine fl_rest (σ := Obj × List (Str × Int)) (fun c => (d3, c.1) :: news) (fun _ => []) [Str.ofString "func", Str.ofString "caller"] (fun r c => ∃ kr, r = itmsD kr ∧ IsD w c.1 c.2 ∧ c.2.length + kr.length < 100 ∧ kr.foldl (fun acc p => putKV acc p.1 p.2) c.2 = copyKV kv1) (o3, []) (itmsD kv1) ?g1 ?g2 ?g3 ?g4 ?g5
  case g1 => exact fun c => ⟨List.mem_cons_of_mem _ hm1, trivial⟩
  case g2 => exact List.forall_mem_nil _
  case g3 => exact ⟨kv1, rfl, D3, by simpa using hz1, rfl⟩
  case g4 =>
    rintro it a r ⟨oc, kc⟩ u v h tk ⟨kr, er, Dc, hzc, hrec⟩ hit hav F6 N6
    cases kr with
    | nil => cases er
    | cons p kr' =>
    obtain ⟨k, n⟩ := p
    injection er with e1 e2
    subst e1 e2
    obtain ⟨T9, t9, x9, rfl, hfl, htup⟩ := hav
    obtain ⟨t8, rfl⟩ := hfl.int_inv
    dsimp only [kstB, kyVal] at F6 N6 htup Dc hzc hrec
    try k_fold
    (repeat' ((fail_if_success (with_reducible show wpAny _ _ (exec (Stmt.While _ _ _ _) _) _ _ _)); (fail_if_success (with_reducible show wpAny _ _ (exec (Stmt.For _ _ _ _ _) _) _ _ _)); (fail_if_success (with_reducible show wpAny _ _ (pyIter _) _ _ _)); (fail_if_success (with_reducible show wpAny _ _ (call (Value.builtin "str.split") _) _ _ _)); (fail_if_success (with_reducible show KswEnd _ _ _ _ _ _ _ _ _ _ _ _)); (fail_if_success (with_reducible show FlEnd _ _ _ _ _ _ _ _ _ _ _)); (first | (k_unfold; (try dsimp only)) | (k_end; wrow_close) | walk1 | (dsimp only; walk1) | (dsimp only [List.cons_append, List.nil_append]; walk1) | (leave1; walk_say "STEP leave1"; try dsimp only) | fail "no step")))
    rename IsD w _ (putKV _ _ _) => D7
    rename Fr _ _ _ _ => F7
    rename News _ _ _ _ => N7
    have hzp := putKV_length kc k n
    simp only [List.length_cons] at hzc
    refine fl_end (_, putKV kc k n) F7 N7 (fun _ (h9 : _ ∈ _) => h9) (List.forall_mem_cons.mpr ⟨Nat.ne_of_lt hI3, fun p hp => Nat.ne_of_lt (hI p (List.mem_cons_of_mem _ hp))⟩) (List.forall_mem_nil _) (by ksw_same) ⟨kr', rfl, D7, by dsimp only; omega, hrec⟩
  case g5 =>
    rintro ⟨oc, kc⟩ u h tk ⟨kr, er, Dc, hzc, hrec⟩ F6 N6
    dsimp only [kstB] at F6 N6
    obtain rfl : kr = [] := by
      cases kr with
      | nil => rfl
      | cons p r => cases er
    dsimp only at Dc hzc hrec N6 F6
    have hrec' : kc = copyKV kv1 := hrec
    subst hrec'
    try k_fold
    (repeat' ((fail_if_success (with_reducible show wpAny _ _ (exec (Stmt.While _ _ _ _) _) _ _ _)); (fail_if_success (with_reducible show wpAny _ _ (exec (Stmt.For _ _ _ _ _) _) _ _ _)); (fail_if_success (with_reducible show wpAny _ _ (pyIter _) _ _ _)); (fail_if_success (with_reducible show wpAny _ _ (call (Value.builtin "str.split") _) _ _ _)); (fail_if_success (with_reducible show KswEnd _ _ _ _ _ _ _ _ _ _ _ _)); (fail_if_success (with_reducible show FlEnd _ _ _ _ _ _ _ _ _ _ _)); (first | (k_unfold; (try dsimp only)) | (k_end; wrow_close) | walk1 | (dsimp only; walk1) | (dsimp only [List.cons_append, List.nil_append]; walk1) | (leave1; walk_say "STEP leave1"; try dsimp only) | fail "no step")))
    with_unfolding_all refine For_turns F6 ?_
    with_unfolding_all refine MethodCall_ ?_
    k_dflt refine ld F6 (by rfl) ?_
    with_unfolding_all refine getMethod_tab PySem.F.slot_dict_items PySem.F.type_dict_items (tabD N6 (List.mem_cons_of_mem _ hm2) lo2 D2) ?_
    with_unfolding_all refine callWith_method0 ?_
    with_unfolding_all refine call_items_tab (tabD N6 (List.mem_cons_of_mem _ hm2) lo2 D2) F6 N6 ?_
    intro h15 o15 hv15 F15 N15
    replace N15 := kti_tail N15
    with_unfolding_all refine kti_items (xs := itmsD kv2) (by rfl) F15 N15 hv15 (tabD (s := { s with heap := h15 }) N15 (List.mem_cons_of_mem _ hm2) lo2 D2) (List.mem_cons_of_mem _ hm2) (fun _ _ h => Value.isStrOf_shape h) rfl ?_
    intro J hJ
    have hJ3 := ltN (hJ _ List.mem_cons_self)
    dsimp only at hJ3
    refine fl_rest (σ := Obj × List (Str × Int)) (fun c => (d3, c.1) :: news) (fun _ => []) [Str.ofString "func", Str.ofString "caller"] (fun r c => ∃ kr, r = itmsD kr ∧ IsD w c.1 c.2 ∧ c.2.length + kr.length < 200 ∧ kr.foldl plusKV c.2 = addC kv1 kv2) (oc, copyKV kv1) (itmsD kv2) ?q1 ?q2 ?q3 ?q4 ?q5
    case q1 => exact fun c => ⟨List.mem_cons_of_mem _ hm2, trivial⟩
    case q2 => exact List.forall_mem_nil _
    case q3 => exact ⟨kv2, rfl, Dc, by simp only [List.length_nil] at hzc; dsimp only; omega, rfl⟩
    case q4 =>
      rintro it a r ⟨oc, kc⟩ u v h tk ⟨kr, er, Dc, hzc, hrec⟩ hit hav F6 N6
      cases kr with
      | nil => cases er
      | cons p kr' =>
      obtain ⟨k, n⟩ := p
      injection er with e1 e2
      subst e1 e2
      obtain ⟨T9, t9, x9, rfl, hfl, htup⟩ := hav
      obtain ⟨t8, rfl⟩ := hfl.int_inv
      dsimp only [kstB, kyVal] at F6 N6 htup Dc hzc hrec
      try k_fold
      (repeat' ((fail_if_success (with_reducible show wpAny _ _ (exec (Stmt.While _ _ _ _) _) _ _ _)); (fail_if_success (with_reducible show wpAny _ _ (exec (Stmt.For _ _ _ _ _) _) _ _ _)); (fail_if_success (with_reducible show wpAny _ _ (pyIter _) _ _ _)); (fail_if_success (with_reducible show wpAny _ _ (call (Value.builtin "str.split") _) _ _ _)); (fail_if_success (with_reducible show KswEnd _ _ _ _ _ _ _ _ _ _ _ _)); (fail_if_success (with_reducible show FlEnd _ _ _ _ _ _ _ _ _ _ _)); (first | (k_unfold; (try dsimp only)) | (k_end; wrow_close) | walk1 | (dsimp only; walk1) | (dsimp only [List.cons_append, List.nil_append]; walk1) | (leave1; walk_say "STEP leave1"; try dsimp only) | fail "no step")))
      · rename (Option.isSome _ = true) => hsome
        obtain ⟨v0, hg⟩ := Option.isSome_iff_exists.mp hsome
        (repeat' ((fail_if_success (with_reducible show wpAny _ _ (exec (Stmt.While _ _ _ _) _) _ _ _)); (fail_if_success (with_reducible show wpAny _ _ (exec (Stmt.For _ _ _ _ _) _) _ _ _)); (fail_if_success (with_reducible show wpAny _ _ (pyIter _) _ _ _)); (fail_if_success (with_reducible show wpAny _ _ (call (Value.builtin "str.split") _) _ _ _)); (fail_if_success (with_reducible show KswEnd _ _ _ _ _ _ _ _ _ _ _ _)); (fail_if_success (with_reducible show FlEnd _ _ _ _ _ _ _ _ _ _ _)); (first | (k_unfold; (try dsimp only)) | (k_end; wrow_close) | walk1 | (dsimp only; walk1) | (dsimp only [List.cons_append, List.nil_append]; walk1) | (leave1; walk_say "STEP leave1"; try dsimp only) | fail "no step")))
        rename IsD w _ (putKV _ _ _) => D7
        rename Fr _ _ _ _ => F7
        rename News _ _ _ _ => N7
        have hzp := putKV_length kc k (v0 + n)
        simp only [List.length_cons] at hzc
        refine fl_end (_, putKV kc k (v0 + n)) F7 N7 (fun _ (h9 : _ ∈ _) => h9) (List.forall_mem_cons.mpr ⟨Nat.ne_of_lt hJ3, fun p hp => Nat.ne_of_lt (hJ p (List.mem_cons_of_mem _ hp))⟩) (List.forall_mem_nil _) (by ksw_same) ⟨kr', rfl, D7, by dsimp only; omega, ?_⟩
        rw [← hrec]
        show _ = kr'.foldl plusKV (plusKV kc (k, n))
        unfold plusKV
        rw [hg]
      · rename (Option.isSome _ = false) => hnone
        rename IsD w _ (putKV _ _ _) => D7
        rename Fr _ _ _ _ => F7
        rename News _ _ _ _ => N7
        have hzp := putKV_length kc k n
        simp only [List.length_cons] at hzc
        have hg : getKV kc k = none := by
          cases hg : getKV kc k with
          | none => rfl
          | some v => rw [hg] at hnone; cases hnone
        refine fl_end (_, putKV kc k n) F7 N7 (fun _ (h9 : _ ∈ _) => h9) (List.forall_mem_cons.mpr ⟨Nat.ne_of_lt hJ3, fun p hp => Nat.ne_of_lt (hJ p (List.mem_cons_of_mem _ hp))⟩) (List.forall_mem_nil _) (by ksw_same) ⟨kr', rfl, D7, by dsimp only; omega, ?_⟩
        rw [← hrec]
        show _ = kr'.foldl plusKV (plusKV kc (k, n))
        unfold plusKV
        rw [hg]
    case q5 =>
      rintro ⟨oc, kc⟩ u h tk ⟨kr, er, Dc, hzc, hrec⟩ F6 N6
      dsimp only [kstB] at F6 N6
      obtain rfl : kr = [] := by
        cases kr with
        | nil => rfl
        | cons p r => cases er
      dsimp only at Dc hzc hrec N6 F6
      have hrec' : kc = addC kv1 kv2 := hrec
      subst hrec'
      try k_fold
      (repeat' ((fail_if_success (with_reducible show wpAny _ _ (exec (Stmt.While _ _ _ _) _) _ _ _)); (fail_if_success (with_reducible show wpAny _ _ (exec (Stmt.For _ _ _ _ _) _) _ _ _)); (fail_if_success (with_reducible show wpAny _ _ (pyIter _) _ _ _)); (fail_if_success (with_reducible show wpAny _ _ (call (Value.builtin "str.split") _) _ _ _)); (fail_if_success (with_reducible show KswEnd _ _ _ _ _ _ _ _ _ _ _ _)); (fail_if_success (with_reducible show FlEnd _ _ _ _ _ _ _ _ _ _ _)); (first | (k_unfold; (try dsimp only)) | (k_end; wrow_close) | walk1 | (dsimp only; walk1) | (dsimp only [List.cons_append, List.nil_append]; walk1) | (leave1; walk_say "STEP leave1"; try dsimp only) | fail "no step")))
      rename News h₀ L _ _ => N7
      exact hret _ _ _ _ ⟨d3, oc, rfl, rfl, hlt, lo3, Dc⟩ (by assumption) N7
end
section
abbrev tup5 (a b c e : Int) (ta tb tc te : Tok) (d : Addr) : Obj := { cls := .type "tuple", data := .seq #[.int a ta, .int b tb, .int c tc, .int e te, .ref d] }
theorem addf_spec (w : World) (t1 t2 d1 d2 : Addr) (o1 o2 : Obj) (kv1 kv2 : List (Str × Int)) (news : Led) (a1 b1 c1 e1 a2 b2 c2 e2 : Int) (ta1 tb1 tc1 te1 ta2 tb2 tc2 te2 : Tok)
    (hT1 : (t1, tup5 a1 b1 c1 e1 ta1 tb1 tc1 te1 d1) ∈ news) (hT2 : (t2, tup5 a2 b2 c2 e2 ta2 tb2 tc2 te2 d2) ∈ news)
    (hm1 : (d1, o1) ∈ news) (hm2 : (d2, o2) ∈ news) (lo1 : (d1 == sysModules) = false) (lo2 : (d2 == sysModules) = false)
    (D1 : IsD w o1 kv1) (D2 : IsD w o2 kv2) (hz1 : kv1.length < 100) (hz2 : kv2.length < 100) :
    CallSpec w 56 [.ref t1, .ref t2] news 2 16 (fun r news' => ∃ t3 d3 o3 ta tb tc te, r = .ref t3 ∧ news' = (t3, tup5 (a2 + a1) (b2 + b1) (c2 + c1) (e2 + e1) ta tb tc te d3) :: (d3, o3) :: news ∧ (∀ p ∈ news, p.1 < d3) ∧ d3 < t3 ∧ (d3 == sysModules) = false ∧ IsD w o3 (addC kv1 kv2)) := by
  w_top off
  unfold CallSpec
  k_fill
  intro mean mg mb dp un gd cn cs a ccd cl outer A₀ base h₀ L m s Q E B F X N T hk hd hu hret
  refine wpAny_call ?_
  k_dflt ktr_enter
  (repeat' ((fail_if_success (with_reducible show wpAny _ _ (exec (Stmt.While _ _ _ _) _) _ _ _)); (fail_if_success (with_reducible show wpAny _ _ (exec (Stmt.For _ _ _ _ _) _) _ _ _)); (fail_if_success (with_reducible show wpAny _ _ (pyIter _) _ _ _)); (fail_if_success (with_reducible show wpAny _ _ (call (Value.builtin "str.split") _) _ _ _)); (fail_if_success (with_reducible show KswEnd _ _ _ _ _ _ _ _ _ _ _ _)); (fail_if_success (with_reducible show FlEnd _ _ _ _ _ _ _ _ _ _ _)); (first | (k_unfold; (try dsimp only)) | (k_end; wrow_close) | walk1 | (dsimp only; walk1) | (dsimp only [List.cons_append, List.nil_append]; walk1) | (leave1; walk_say "STEP leave1"; try dsimp only) | fail "no step")))
  k_dflt (refine' spec_use (addc_spec w d1 d2 o1 o2 kv1 kv2 news ?c1 ?c2 ?c3 ?c4 ?c5 ?c6 ?c7 ?c8) ?k1 ?k2 ?k3 ?k4 ?k5 ?k6 ?k7 ?k8 ?_)
  (case k1 => k_asm); (case k2 => k_asm); (case k3 => k_asm); (case k4 => k_asm); (case k5 => k_asm); (case k6 => exact rfl); (case k7 => ktr_room); (case k8 => ktr_units); (case c1 => k_mem); (case c2 => k_mem); (case c3 => k_asm); (case c4 => k_asm); (case c5 => k_asm); (case c6 => k_asm); (case c7 => omega); (case c8 => omega)
  intro r' news' h' tk' P' F' N'; obtain ⟨d3', o3', e1', e2', hl3', lo3', D3'⟩ := P'; subst e1'; subst e2'
  (repeat' ((fail_if_success (with_reducible show wpAny _ _ (exec (Stmt.While _ _ _ _) _) _ _ _)); (fail_if_success (with_reducible show wpAny _ _ (exec (Stmt.For _ _ _ _ _) _) _ _ _)); (fail_if_success (with_reducible show wpAny _ _ (pyIter _) _ _ _)); (fail_if_success (with_reducible show wpAny _ _ (call (Value.builtin "str.split") _) _ _ _)); (fail_if_success (with_reducible show KswEnd _ _ _ _ _ _ _ _ _ _ _ _)); (fail_if_success (with_reducible show FlEnd _ _ _ _ _ _ _ _ _ _ _)); (first | (k_unfold; (try dsimp only)) | (k_end; wrow_close) | walk1 | (dsimp only; walk1) | (dsimp only [List.cons_append, List.nil_append]; walk1) | (leave1; walk_say "STEP leave1"; try dsimp only) | fail "no step")))
  rename (_ ∧ AllLt _ _) => l9
  exact hret _ _ _ _ ⟨_, d3', o3', _, _, _, _, rfl, rfl, hl3', l9.1, lo3', D3'⟩ (by assumption) (by assumption)
end
abbrev Ent := Int × Int × Int × Int × List (Str × Int)
abbrev Book := List (Int × Ent)
def e0 : Ent := (0, 0, 0, 0, [])
def findB (b : Book) (n : Int) : Option Ent := (b.find? fun p => decide (p.1 = n)).map (·.2)
def putB (b : Book) (n : Int) (e : Ent) : Book := if b.any (fun p => decide (p.1 = n)) then b.map (fun p => if p.1 = n then (p.1, e) else p) else b ++ [(n, e)]
def addE (t s : Ent) : Ent := (s.1 + t.1, s.2.1 + t.2.1, s.2.2.1 + t.2.2.1, s.2.2.2.1 + t.2.2.2.1, addC t.2.2.2.2 s.2.2.2.2)

/-- a tuple of the book with its dict, in the ledger -/
structure EntAt (w : World) (more : Led) (t : Addr) (e : Ent) : Prop where
  ex : ∃ d o ta tb tc te, (t, tup5 e.1 e.2.1 e.2.2.1 e.2.2.2.1 ta tb tc te d) ∈ more ∧ (d, o) ∈ more ∧ (d == sysModules) = false ∧ IsD w o e.2.2.2.2
inductive BR (w : World) (more : Led) : List (Int × Value) → Book → Prop
  | nil : BR w more [] []
  | cons {n : Int} {t : Addr} {e : Ent} {kvs : List (Int × Value)} {bk : Book} : EntAt w more t e → BR w more kvs bk → BR w more ((n, .ref t) :: kvs) ((n, e) :: bk)
theorem EntAt.mono {w : World} {more more' : Led} {t : Addr} {e : Ent} (h : EntAt w more t e) (hs : ∀ p ∈ more, p ∈ more') : EntAt w more' t e := by
  obtain ⟨d, o, ta, tb, tc, te, h1, h2, h3, h4⟩ := h.ex
  exact ⟨⟨d, o, ta, tb, tc, te, hs _ h1, hs _ h2, h3, h4⟩⟩
theorem BR.mono {w : World} {more more' : Led} {kvs : List (Int × Value)} {bk : Book} (h : BR w more kvs bk) (hs : ∀ p ∈ more, p ∈ more') : BR w more' kvs bk := by
  induction h with
  | nil => exact .nil
  | cons e _ ih => exact .cons (e.mono hs) ih
theorem BR.find {w : World} {more : Led} {kvs : List (Int × Value)} {bk : Book} (h : BR w more kvs bk) (n : Int) :
    (valueAt kvs n = none ∧ findB bk n = none) ∨ ∃ t e, valueAt kvs n = some (.ref t) ∧ findB bk n = some e ∧ EntAt w more t e := by
  induction h with
  | nil => exact .inl ⟨rfl, rfl⟩
  | @cons m t e kvs bk he _ ih =>
    by_cases hm : m = n
    · refine .inr ⟨t, e, ?_, ?_, he⟩
      · simp [valueAt, hm]
      · simp [findB, hm]
    · have e1 : valueAt ((m, Value.ref t) :: kvs) n = valueAt kvs n := by simp [valueAt, hm]
      have e2 : findB ((m, e) :: bk) n = findB bk n := by simp [findB, hm]
      rw [e1, e2]; exact ih
theorem BR.any {w : World} {more : Led} {kvs : List (Int × Value)} {bk : Book} (h : BR w more kvs bk) (n : Int) : (kvs.any fun kv => decide (kv.1 = n)) = (bk.any fun p => decide (p.1 = n)) := by
  induction h with
  | nil => rfl
  | cons _ _ ih => simp only [List.any_cons, ih]
theorem BR.put1 {w : World} {more : Led} {kvs : List (Int × Value)} {bk : Book} (h : BR w more kvs bk) {t : Addr} {e : Ent} (he : EntAt w more t e) (n : Int) : BR w more (kvs.map fun kv => if kv.1 = n then (kv.1, .ref t) else kv) (bk.map fun p => if p.1 = n then (p.1, e) else p) := by
  induction h with
  | nil => exact .nil
  | @cons m t' e' kvs bk h1 _ ih =>
    simp only [List.map_cons]
    by_cases hm : m = n
    · simp only [hm, if_true]; exact .cons he ih
    · simp only [hm, if_false]; exact .cons h1 ih
theorem BR.put2 {w : World} {more : Led} {kvs : List (Int × Value)} {bk : Book} (h : BR w more kvs bk) {t : Addr} {e : Ent} (he : EntAt w more t e) (n : Int) : BR w more (kvs ++ [(n, .ref t)]) (bk ++ [(n, e)]) := by
  induction h with
  | nil => exact .cons he .nil
  | cons h1 _ ih => exact .cons h1 ih
theorem BR.put {w : World} {more : Led} {kvs : List (Int × Value)} {bk : Book} (h : BR w more kvs bk) {t : Addr} {e : Ent} (he : EntAt w more t e) (n : Int) : BR w more (stored kvs n (.ref t)) (putB bk n e) := by
  unfold stored putB
  rw [h.any n]
  split
  · exact h.put1 he n
  · exact h.put2 he n
theorem BR.length {w : World} {more : Led} {kvs : List (Int × Value)} {bk : Book} (h : BR w more kvs bk) : kvs.length = bk.length := by
  induction h with
  | nil => rfl
  | cons _ _ ih => simp [ih]

section
variable {w : World} {A : Around} {E : Value → Shared → Prop} {s : Shared} {h₀ : Heap} {L d : Addr} {m : Str → Option Value} {news : Led} {g : Obj → Led} {o : Obj} {kvs : List (Int × Value)} {n : Int} {t : Tok}
theorem dictB (N : News h₀ L s.heap news) (hm : (d, o) ∈ news) (D : o.IsDictOf (intKind PySem.Challenge.rw_pg0125_01.row.prog w) kvs) : s.heap.DictOf (intKind PySem.Challenge.rw_pg0125_01.row.prog w) d kvs :=
  Heap.dictOf_iff.mpr ⟨o, (N _ hm).1, D⟩
theorem methB {pl : Sem Bool} {Q : Value × List Value → Shared → Prop} (N : News h₀ L s.heap news) (hm : (d, o) ∈ news) (D : o.IsDictOf (intKind PySem.Challenge.rw_pg0125_01.row.prog w) kvs) (h : Q (.builtin "dict.get", [.ref d]) s) :
    wpAny (model PySem.Challenge.rw_pg0125_01.row.prog w) A (getMethod (.ref d) "get" pl) Q E s :=
  getMethod_builtin (dictB N hm D).typeIs PySem.F.plainAttrs_dict PySem.F.slot_dict_get PySem.F.type_dict_get (dictB N hm D).mapOf.noDict h
theorem getB2 {dflt : Value} {Q : Value → Shared → Prop} (N : News h₀ L s.heap news) (hm : (d, o) ∈ news) (lo : (d == sysModules) = false) (D : o.IsDictOf (intKind PySem.Challenge.rw_pg0125_01.row.prog w) kvs)
    (h : Q ((valueAt kvs n).getD dflt) { s with toks := s.toks + 1 }) :
    wpAny (model PySem.Challenge.rw_pg0125_01.row.prog w) A (call (.builtin "dict.get") [.ref d, .int n t, dflt]) Q E s :=
  call_meetsIn PySem.F.slot_dict_get (dictB N hm D).typeIs PySem.F.entry_dict_get (PySem.F.args_dict_get_3 _ _ _) (meets_dict_get_default (intKind PySem.Challenge.rw_pg0125_01.row.prog w) d (intKind_is _ _ n t) lo dflt) ⟨_, (dictB N hm D).mapOf, h⟩
theorem setB {v : Value} {Q : Unit → Shared → Prop} (F : Fr h₀ L s.heap m) (N : News h₀ L s.heap news) (U : UpdF d o news g) (D : o.IsDictOf (intKind PySem.Challenge.rw_pg0125_01.row.prog w) kvs) (hz : kvs.length < 1000)
    (h : ∀ h' o', Fr h₀ L h' m → News h₀ L h' (g o') → o'.IsDictOf (intKind PySem.Challenge.rw_pg0125_01.row.prog w) (stored kvs n v) → Q () { s with heap := h', toks := s.toks + 1 }) :
    wpAny (model PySem.Challenge.rw_pg0125_01.row.prog w) A (setItem (.ref d) (.int n t) v) Q E s := by
  obtain ⟨pre, post, rfl, hg, a, b⟩ := U.split
  have hmem : (d, o) ∈ pre ++ (d, o) :: post := List.mem_append.mpr (.inr (.head _))
  have z := N _ hmem
  refine wpAny_setItem_pairs (intKind_is _ _ n t) (dictB N hmem D) (fun h' hd hs => ?_) (by rw [sizeLine_eq]; omega)
  obtain ⟨o', ho', hd'⟩ := Heap.dictOf_iff.mp hd
  refine h h' o' (F.change hs z.2.1 z.2.2) ?_ hd'
  rw [hg]
  exact news_set N a b hs ho'
theorem itemB {value slice : PySem.Expr} {v : Value} {Q : Value → Shared → Prop} (N : News h₀ L s.heap news) (hm : (d, o) ∈ news) (D : o.IsDictOf (intKind PySem.Challenge.rw_pg0125_01.row.prog w) kvs) (hv : valueAt kvs n = some v)
    (h : Q v { s with toks := s.toks + 1 })
    (hs : subscripted slice false (.ref d) (.int n t) = operate [.ref d, .int n t] (getItem (.ref d) (.int n t)) := by with_unfolding_all rfl) :
    wpAny (model PySem.Challenge.rw_pg0125_01.row.prog w) A (subscriptTail value slice (.ref d) (.int n t)) Q E s :=
  tail_any (dictB N hm D).typeIs slot_dict_getitem.lookup (wpAny_getItem_of (intKind_is _ _ n t) (dictB N hm D).mapOf hv h) hs
end
theorem len1 (c : Nat) : Str.length ⟨#[c]⟩ = 1 := rfl
theorem lenE : Str.length (Str.ofString "...") = 3 := by decide +kernel
def pat (word : Str) : Str := Str.ofString "..." ++ Txt.join (Str.ofString "...") (signs word) ++ Str.ofString "..."
abbrev GSt := List Str × List Str × Book
def pushL {α : Type} (lt : α → α → Bool) (l : List α) (x : α) : List α := siftdown lt (l ++ [x]) l.length
def entY (text : Str) (c0 c1 : Str) : Ent :=
  (1, 1, Txt.count text c0, (text.length : Int) - Txt.count text c0, [(Txt.mul c0 (Txt.count text c0) ++ Txt.mul c1 ((text.length : Int) - Txt.count text c0), 1)])
def entN : Ent := (0, 1, 0, 0, [])
def stepG (mid : List Str) (c0 c1 : Str) (st : GSt) : GSt :=
  match st.1 with
  | [] => st
  | text :: _ =>
    if ellLoop text (Str.ofString "" :: (mid ++ [Str.ofString ""])) 0 then
      (popL ltS st.1, st.2.1 ++ [text], putB st.2.2 (text.length : Int) (addE ((findB st.2.2 (text.length : Int)).getD e0) (entY text c0 c1)))
    else
      (if text.length < 5 then pushL ltS (pushL ltS (popL ltS st.1) (text ++ c1)) (text ++ c0) else popL ltS st.1, st.2.1, putB st.2.2 (text.length : Int) (addE ((findB st.2.2 (text.length : Int)).getD e0) entN))
def okG (st : GSt) : Bool := decide (st.1.length < 100) && st.1.all (fun x => decide (x.length < 10) && PyData.strOk x) && decide (st.2.1.length < 100) && decide (st.2.2.length < 100) && st.2.2.all (fun p => decide (p.2.2.2.2.2.length < 50))
def runG (mid : List Str) (c0 c1 : Str) : Nat → GSt → Option (List Str × Book)
  | 0, _ => none
  | n + 1, st => if okG st then (match st.1 with | [] => some st.2 | _ :: _ => runG mid c0 c1 n (stepG mid c0 c1 st)) else none

section
variable {α β : Type} (f : α → β) (la : α → α → Bool) (lb : β → β → Bool) (hf : ∀ x y, la x y = lb (f x) (f y))
include hf
theorem map_sdLoop (x : α) : ∀ (n : Nat) (l : List α) (p : Nat), (sdLoop la x n l p).map f = sdLoop lb (f x) n (l.map f) p := by
  intro n
  induction n with
  | zero => intro l p; simp [sdLoop, List.map_set]
  | succ n ih =>
    intro l p
    simp only [sdLoop, List.getElem?_map]
    split
    · simp [List.map_set]
    · cases h : l[(p - 1) / 2]? with
      | none => simp [List.map_set]
      | some y =>
        simp only [Option.map_some]
        rw [hf x y]
        split
        · rw [ih, List.map_set]
        · simp [List.map_set]
theorem map_siftdown (l : List α) (p : Nat) : (siftdown la l p).map f = siftdown lb (l.map f) p := by
  unfold siftdown
  rw [List.getElem?_map]
  cases h : l[p]? with
  | none => rfl
  | some x => exact map_sdLoop f la lb hf x p l p
theorem map_pickCh (l : List α) (ch : Nat) : pickCh la l ch = pickCh lb (l.map f) ch := by
  unfold pickCh
  rw [List.getElem?_map, List.getElem?_map]
  cases h1 : l[ch]? with
  | none => rfl
  | some a =>
    cases h2 : l[ch + 1]? with
    | none => rfl
    | some b => simp only [Option.map_some]; rw [hf a b]
theorem map_suLoop : ∀ (n : Nat) (l : List α) (p : Nat), suLoop lb n (l.map f) p = ((suLoop la n l p).1.map f, (suLoop la n l p).2) := by
  intro n
  induction n with
  | zero => intro l p; rfl
  | succ n ih =>
    intro l p
    simp only [suLoop, List.length_map, List.getElem?_map, ← map_pickCh f la lb hf]
    split
    · cases h : l[pickCh la l (2 * p + 1)]? with
      | none => rfl
      | some y => simp only [Option.map_some]; rw [← List.map_set, ih]
    · rfl
theorem map_siftup (l : List α) : (siftup la l).map f = siftup lb (l.map f) := by
  unfold siftup
  rw [List.getElem?_map]
  cases h : l[0]? with
  | none => rfl
  | some x =>
    simp only [Option.map_some, List.length_map]
    rw [map_suLoop f la lb hf, map_siftdown f la lb hf, List.map_set]
theorem map_popL (l : List α) : (popL la l).map f = popL lb (l.map f) := by
  unfold popL
  rw [List.getLast?_map]
  cases h : l.getLast? with
  | none => rfl
  | some x =>
    simp only [Option.map_some]
    rw [← List.map_dropLast]
    cases h2 : l.dropLast with
    | nil => rfl
    | cons y r => simp only [List.map_cons]; rw [map_siftup f la lb hf]; rfl
end
theorem ltT_ltS (x y : ST) : ltT x y = ltS x.1 y.1 := rfl
theorem pop_spec' (w : World) (l : Addr) (its : List ST) (ep : Nat) (rest : Led) (hr : ∀ q ∈ rest, q.1 ≠ l) (hne : its ≠ []) (hz : its.length < 900) :
    CallSpec w 35 [.ref l] ((l, listOf (strL its).toArray ep) :: rest) 3 24 (fun r news' => (∃ y, its[0]? = some y ∧ r = strV y) ∧ news' = (l, listOf (strL (popL ltT its)).toArray (ep + 1)) :: rest) := by
  obtain ⟨its0, p, rfl⟩ : ∃ its0 p, its = its0 ++ [p] := ⟨its.dropLast, its.getLast hne, (List.dropLast_concat_getLast hne).symm⟩
  obtain ⟨x, t⟩ := p
  exact pop_spec w l its0 ep rest x t hr (by simp at hz; omega)

theorem str_canLayAll : ∀ xs : List Str, (∀ x ∈ xs, PyData.strOk x = true) → PyData.canLayAll0 (xs.map PyData.str) = true
  | [], _ => rfl
  | x :: r, h => by
    simp only [List.map_cons, PyData.canLayAll0, PyData.canLay0, Bool.and_eq_true]
    exact ⟨h x List.mem_cons_self, str_canLayAll r fun y hy => h y (List.mem_cons_of_mem _ hy)⟩
theorem str_depthAll : ∀ xs : List Str, PyData.depthAll (xs.map PyData.str) = 0
  | [] => rfl
  | _ :: r => by simp [PyData.depthAll, PyData.depth, str_depthAll r]
theorem str_shaped (xs : List Str) (h : ∀ x ∈ xs, PyData.strOk x = true) : SeqAt.shaped (.list (xs.map PyData.str)) = true := by
  simp [SeqAt.shaped, PyData.canLay0, PyData.depth, str_canLayAll xs h, str_depthAll]
theorem str_eqvAll : ∀ ns ms : List Str, PyData.eqvAll (ns.map PyData.str) (ms.map PyData.str) = decide (ns = ms)
  | [], [] => by simp [PyData.eqvAll]
  | [], _ :: _ => by simp [PyData.eqvAll]
  | _ :: _, [] => by simp [PyData.eqvAll]
  | a :: r, b :: t => by
    simp only [List.map_cons, PyData.eqvAll, PyData.eqv, str_eqvAll r t]
    by_cases h : a = b <;> by_cases h' : r = t <;> simp [h, h']
theorem str_carried : ∀ its : List ST, CarriedAll (strL its) ((its.map (·.1)).map PyData.str)
  | [] => .nil
  | (x, t) :: r => .cons (.str x t) (str_carried r)
section
variable {prog : Program} {w : World} {A : Around} {E : Value → Shared → Prop} {s : Shared} {h₀ : Heap} {L a b : Addr} {news : Led} {its jts : List ST} {n k : Nat}
theorem ne_S {Q : Value → Shared → Prop} (N : News h₀ L s.heap news) (ha : (a, listOf (strL its).toArray n) ∈ news) (hb : (b, listOf (strL jts).toArray k) ∈ news)
    (hi : ∀ x ∈ its.map (·.1), PyData.strOk x = true) (hj : ∀ x ∈ jts.map (·.1), PyData.strOk x = true) (hu : A.units + 64 < cLine) (h : Q (.bool (!decide (its.map (·.1) = jts.map (·.1)))) s) :
    wpAny (model prog w) A (compareOp .NotEq (.ref a) (.ref b)) Q E s := by
  refine ne_dataH (reads_newData (News.isList N ha) (str_carried its)) (reads_newData (News.isList N hb) (str_carried jts)) (str_shaped _ hi) (str_shaped _ hj) hu ?_
  simp only [PyData.eqv, str_eqvAll]
  exact h
end

theorem sdLoop_length {α : Type} (lt : α → α → Bool) (x : α) : ∀ (n : Nat) (l : List α) (p : Nat), (sdLoop lt x n l p).length = l.length := by
  intro n
  induction n with
  | zero => intro l p; simp [sdLoop]
  | succ n ih =>
    intro l p
    simp only [sdLoop]
    split
    · simp
    · split
      · simp
      · split
        · rw [ih]; simp
        · simp
theorem siftdown_length {α : Type} (lt : α → α → Bool) (l : List α) (p : Nat) : (siftdown lt l p).length = l.length := by
  unfold siftdown
  split
  · rfl
  · exact sdLoop_length ..
theorem suLoop_length {α : Type} (lt : α → α → Bool) : ∀ (n : Nat) (l : List α) (p : Nat), (suLoop lt n l p).1.length = l.length := by
  intro n
  induction n with
  | zero => intro l p; rfl
  | succ n ih =>
    intro l p
    simp only [suLoop]
    split
    · split
      · rw [ih]; simp
      · rfl
    · rfl
theorem siftup_length {α : Type} (lt : α → α → Bool) (l : List α) : (siftup lt l).length = l.length := by
  unfold siftup
  split
  · rfl
  · rw [siftdown_length, List.length_set, suLoop_length]
theorem popL_length {α : Type} (lt : α → α → Bool) (l : List α) : (popL lt l).length ≤ l.length := by
  unfold popL
  split
  · simp
  · split
    · simp
    · rename_i h
      rw [siftup_length]
      have := congrArg List.length h
      simp at this
      simp
      omega
theorem news_rot2 {h₀ h : Heap} {L : Addr} {a b c : Addr × Obj} {r : Led} (N : News h₀ L h (a :: b :: c :: r)) : News h₀ L h (c :: a :: b :: r) := by
  intro p hp
  refine N p ?_
  simp only [List.mem_cons] at hp ⊢
  rcases hp with h | h | h | h
  · exact .inr (.inr (.inl h))
  · exact .inl h
  · exact .inr (.inl h)
  · exact .inr (.inr (.inr h))

def JoinPost (h₀ : Heap) (L : Addr) (s : Shared) (m : Str → Option Value) (x : Str) (Mid : Addr → Led → Prop) (fl : Flow) (s' : Shared) : Prop :=
  fl = .next ∧ ∃ a news h' tk', s' = { s with heap := h', toks := tk' } ∧ Fr h₀ L h' (fun y => if y = x then some (.ref a) else m y) ∧ News h₀ L h' news ∧ Mid a news
theorem join_if {prog : Program} {w : World} {A : Around} {E : Value → Shared → Prop} {s : Shared} {h₀ : Heap} {L : Addr} {m : Str → Option Value} {Q : Flow → Shared → Prop} {t : Sem Flow} (x : Str) (Mid : Addr → Led → Prop) (_F : Fr h₀ L s.heap m)
    (h1 : wpAny (model prog w) A t (JoinPost h₀ L s m x Mid) E s)
    (h2 : ∀ a news h' tk', Mid a news → Fr h₀ L h' (fun y => if y = x then some (.ref a) else m y) → News h₀ L h' news → Q .next { s with heap := h', toks := tk' }) : wpAny (model prog w) A t Q E s := by
  refine wpAny_mono h1 (fun fl s' h => ?_) fun _ _ e => e
  obtain ⟨rfl, a, news, h', tk', rfl, F', N', M⟩ := h
  exact h2 a news h' tk' M F' N'
theorem join_end {s : Shared} {h₀ : Heap} {L : Addr} {m m' : Str → Option Value} {x : Str} {Mid : Addr → Led → Prop} {a : Addr} {news : Led} {h' : Heap} {tk' : Nat} (F : Fr h₀ L h' m') (N : News h₀ L h' news) (M : Mid a news)
    (e : ∀ y, m' y = if y = x then some (.ref a) else m y) : JoinPost h₀ L s m x Mid .next { s with heap := h', toks := tk' } := by
  obtain rfl : m' = _ := funext e
  exact ⟨rfl, a, news, h', tk', rfl, F, N, M⟩
theorem BR.get {w : World} {more news : Led} {kvs : List (Int × Value)} {bk : Book} (h : BR w more kvs bk) (n : Int) (hs : ∀ p ∈ more, p ∈ news) {q : Addr} (h0 : EntAt w news q e0) :
    ∃ t e, (valueAt kvs n).getD (.ref q) = .ref t ∧ (findB bk n).getD e0 = e ∧ EntAt w news t e ∧ (e = e0 ∨ findB bk n = some e) := by
  rcases h.find n with ⟨h1, h2⟩ | ⟨t, e, h1, h2, h3⟩
  · exact ⟨q, e0, by rw [h1]; rfl, by rw [h2]; rfl, h0, .inl rfl⟩
  · exact ⟨t, e, by rw [h1]; rfl, by rw [h2]; rfl, h3.mono hs, .inr h2⟩

theorem news_rot1 {h₀ h : Heap} {L : Addr} {a b c : Addr × Obj} {r : Led} (N : News h₀ L h (c :: a :: b :: r)) : News h₀ L h (a :: b :: c :: r) := by
  intro p hp
  refine N p ?_
  simp only [List.mem_cons] at hp ⊢
  rcases hp with h | h | h | h
  · exact .inr (.inl h)
  · exact .inr (.inr (.inl h))
  · exact .inl h
  · exact .inr (.inr (.inr h))

theorem BR.getN {w : World} {h₀ h : Heap} {L : Addr} {more news : Led} {kvs : List (Int × Value)} {bk : Book} (hb : BR w more kvs bk) (_N : News h₀ L h news) (n : Int) (hs : ∀ p ∈ more, p ∈ news) {q : Addr} (h0 : EntAt w news q e0) :
    ∃ t e, (valueAt kvs n).getD (.ref q) = .ref t ∧ (findB bk n).getD e0 = e ∧ EntAt w news t e ∧ (e = e0 ∨ findB bk n = some e) := hb.get n hs h0

theorem map_pushL (l : List ST) (x : Str) (t : Tok) : (siftdown ltT (l ++ [(x, t)]) l.length).map (·.1) = pushL ltS (l.map (·.1)) x := by
  rw [map_siftdown (·.1) ltT ltS ltT_ltS, List.map_append]
  unfold pushL
  rw [List.length_map]
  rfl
section
local macro_rules | `(tactic| k_all) => `(tactic| assumption)
local macro_rules | `(tactic| walk_at "call builtin:list.append") => `(tactic| (k_here; (with_reducible show wpAny _ _ (call (Value.builtin _) [Value.ref _, Value.str _ _]) _ _ _); k_dflt (refine' append_S ?k1 ?k2 ?k3 ?k4 ?_; (case k1 => k_asm); (case k2 => k_asm); (case k3 => k_upd); (case k4 => (rw [sizeLine_eq]; omega)); k_whole); intro h' F' N'; (try k_sweep)))
local macro_rules | `(tactic| walk_at "binaryOp Add str str") => `(tactic| (k_here; (with_reducible show wpAny _ _ (binaryOp Operator.Add (Value.str _ _) (Value.str _ _)) _ _ _); (refine' add_str ?_ ?hsz; (case hsz => ((try simp only [Str.length_append, len1]); rw [sizeLine_eq]; omega))); intro at' ak'))
local macro_rules | `(tactic| walk_at "compareOp NotEq ref ref") => `(tactic| (k_here; (with_reducible show wpAny _ _ (compareOp CmpOp.NotEq (Value.ref _) (Value.ref _)) _ _ _); k_dflt (first
  | (refine' ne_S (jts := []) ?k1 ?k2 ?k3 ?k4 ?k5 ?k6 ?_; (case k1 => k_asm); (case k2 => k_mem); (case k3 => k_mem); (case k4 => assumption); (case k5 => exact fun _ h => nomatch h); (case k6 => ktr_units); k_whole))))
local macro_rules | `(tactic| walk_at "setItem ref int") => `(tactic| (k_here; (with_reducible show wpAny _ _ (setItem (Value.ref _) (Value.int _ _) (Value.ref _)) _ _ _); k_dflt (refine' setB ?k1 ?k2 ?k3 ?k4 ?k5 ?_; (case k1 => k_asm); (case k2 => k_asm); (case k3 => k_updF); (case k4 => k_asm); (case k5 => omega)); intro h' o' F' N' D'; (try dsimp only at N'); (try k_sweep)))
structure GS where
  its : List ST
  eh : Nat
  nts : List ST
  en : Nat
  ob : Obj
  kvs : List (Int × Value)
  bk : Book
  made : Led
  fuel : Nat
theorem grown_spec (w : World) (word : Str) (tw ts t5 : Tok) (sg : Str) (rest : Led) (mid : List Str) (R : List Str × Book) (hs2 : sg.length = 2) (hl0 : (Txt.item sg 0).length = 1) (hl1 : (Txt.item sg 1).length = 1) (hw : word.length < 10) (hwl : 1 < word.length) (hjl : (Txt.join (Str.ofString "...") (signs word)).length < 100)
    (hin : (Builtin.Str.occurrences (pat word) (Str.ofString "...") 0 (pat word).length 1).isEmpty = false)
    (hsp : Txt.split (pat word) (Str.ofString "...") = Str.ofString "" :: (mid ++ [Str.ofString ""])) (hmid : mid.length < 100)
    (hrun : runG mid (Txt.item sg 0) (Txt.item sg 1) 90 ([Str.ofString ""], [], []) = some R) :
    CallSpec w 84 [.str word tw, .str sg ts, .int 5 t5] rest 4 100 (fun r news' => ∃ T Nt Bk nts en ob kvs made, r = .ref T ∧ news' = (T, { cls := .type "tuple", data := .seq #[.ref Nt, .ref Bk] }) :: (Nt, listOf (strL nts).toArray en) :: (Bk, ob) :: (made ++ rest) ∧ nts.map (·.1) = R.1 ∧ ob.IsDictOf (intKind PySem.Challenge.rw_pg0125_01.row.prog w) kvs ∧ BR w made kvs R.2 ∧ (Bk == sysModules) = false ∧ (∀ p ∈ rest, p.1 < Nt) ∧ Nt < Bk ∧ (∀ p ∈ made, Bk < p.1)) := by
  w_top off
  unfold CallSpec
  k_fill
  intro mean mg mb dp un gd cn cs a ccd cl outer A₀ base h₀ L m s Q E B F X N T hk hd hu hret
  have hlE := lenE
  refine wpAny_call ?_
  k_dflt ktr_enter
  (repeat' ((fail_if_success (with_reducible show wpAny _ _ (exec (Stmt.While _ _ _ _) _) _ _ _)); (fail_if_success (with_reducible show wpAny _ _ (exec (Stmt.For _ _ _ _ _) _) _ _ _)); (fail_if_success (with_reducible show wpAny _ _ (pyIter _) _ _ _)); (fail_if_success (with_reducible show wpAny _ _ (exec (Stmt.If _ _ _ _) _) _ _ _)); (fail_if_success (with_reducible show JoinPost _ _ _ _ _ _ _ _)); (fail_if_success (with_reducible show wpAny _ _ (call (Value.builtin "dict.get") _) _ _ _)); (fail_if_success (with_reducible show wpAny _ _ (call (Value.ref 28) _) _ _ _)); (fail_if_success (with_reducible show wpAny _ _ (call (Value.ref 35) _) _ _ _)); (fail_if_success (with_reducible show wpAny _ _ (call (Value.ref 21) _) _ _ _)); (fail_if_success (with_reducible show wpAny _ _ (call (Value.ref 56) _) _ _ _)); (fail_if_success (with_reducible show wpAny _ _ (eval (PySem.Expr.Dict (_ :: _) _ _) _) _ _ _)); (fail_if_success (with_reducible show wpAny _ _ (call (Value.builtin "str.split") _) _ _ _)); (fail_if_success (with_reducible show KswEnd _ _ _ _ _ _ _ _ _ _ _ _)); (fail_if_success (with_reducible show FlEnd _ _ _ _ _ _ _ _ _ _ _)); (first | (k_unfold; (try dsimp only)) | (k_end; wrow_close) | walk1 | (dsimp only; walk1) | (dsimp only [List.cons_append, List.nil_append]; walk1) | (leave1; walk_say "STEP leave1"; try dsimp only) | fail "no step")))
  rename Obj.IsDictOf (strKind _ _) _ _ => hs9
  rename Obj.IsDictOf (intKind _ _) _ _ => hi9
  clear hs9
  rename ((_ == sysModules) = false) => loB
  rename Fr _ _ _ _ => F1
  rename News _ _ _ _ => N1
  rename_i _ t0 Hp _ l1 _ _ Nt _ l2 _ Bk _ ob _ _ l3 _
  have hpat : Str.ofString "..." ++ Txt.join (Str.ofString "...") (signs word) ++ Str.ofString "..." = pat word := rfl
  have hpl : (pat word).length < 200 := by rw [← hpat]; simp only [Str.length_append]; omega
  rw [hpat] at F1
  have hHN := ltN l2.1
  have hNB := ltN l3.1
  have hHB := ltN l3.2.1
  have hrB : ∀ p ∈ rest, p.1 ≠ Bk := fun p hp => Nat.ne_of_lt (Nat.lt_trans (l1 p hp) hHB)
  have hrN : ∀ p ∈ rest, p.1 ≠ Nt := fun p hp => Nat.ne_of_lt (Nat.lt_trans (l1 p hp) hHN)
  have hrH : ∀ p ∈ rest, p.1 ≠ Hp := fun p hp => Nat.ne_of_lt (l1 p hp)
  refine' ksw_while (σ := GS) (fun c => (Hp, listOf (strL c.its).toArray c.eh) :: (Nt, listOf (strL c.nts).toArray c.en) :: (Bk, c.ob) :: (c.made ++ rest)) (fun _ => []) (fun _ => True) [Str.ofString "text", Str.ofString "n", Str.ofString "ones", Str.ofString "held", Str.ofString "entry"]
    (fun c => runG mid (Txt.item sg 0) (Txt.item sg 1) c.fuel (c.its.map (·.1), c.nts.map (·.1), c.bk) = some R ∧ c.ob.IsDictOf (intKind PySem.Challenge.rw_pg0125_01.row.prog w) c.kvs ∧ BR w c.made c.kvs c.bk ∧ (∀ p ∈ c.made, Bk < p.1))
    (fun c => c.fuel) ⟨[(Str.ofString "", t0)], 0, [], 0, ob, [], [], [], 90⟩ F1 ?g0 trivial (List.forall_mem_nil _) ⟨hrun, hi9, .nil, fun _ h => nomatch h⟩ ?g3
  case g0 =>
    intro p hp
    refine N1 p ?_
    rcases List.mem_cons.mp hp with rfl | hp
    · exact List.mem_cons_of_mem _ (List.mem_cons_of_mem _ List.mem_cons_self)
    rcases List.mem_cons.mp hp with rfl | hp
    · exact List.mem_cons_of_mem _ List.mem_cons_self
    rcases List.mem_cons.mp hp with rfl | hp
    · exact List.mem_cons_self
    · exact List.mem_cons_of_mem _ (List.mem_cons_of_mem _ (List.mem_cons_of_mem _ hp))
  case g3 =>
    rintro ⟨its, eh, nts, en, ob', kvs, bk, made, fuel⟩ u h tk _ ⟨hrn, hob, hbr, hmade⟩ F2 N2
    dsimp only [kstB] at hrn hob hbr hmade F2 N2
    have hmB : ∀ p ∈ made ++ rest, p.1 ≠ Bk := fun p hp => (List.mem_append.mp hp).elim (fun h => Nat.ne_of_gt (hmade p h)) (hrB p)
    have hmN : ∀ p ∈ made ++ rest, p.1 ≠ Nt := fun p hp => (List.mem_append.mp hp).elim (fun h => Nat.ne_of_gt (Nat.lt_trans hNB (hmade p h))) (hrN p)
    have hmH : ∀ p ∈ made ++ rest, p.1 ≠ Hp := fun p hp => (List.mem_append.mp hp).elim (fun h => Nat.ne_of_gt (Nat.lt_trans hHB (hmade p h))) (hrH p)
    obtain ⟨fuel', rfl⟩ : ∃ f', fuel = f' + 1 := by
      cases fuel with
      | zero => cases hrn
      | succ f => exact ⟨f, rfl⟩
    have hok : okG (its.map (·.1), nts.map (·.1), bk) = true := by
      cases hok : okG (its.map (·.1), nts.map (·.1), bk) with
      | true => rfl
      | false => rw [runG, hok] at hrn; cases hrn
    rw [runG, if_pos hok] at hrn
    have hok' := hok
    simp only [okG, Bool.and_eq_true, decide_eq_true_eq, List.length_map, List.all_map, List.all_eq_true, Function.comp] at hok'
    obtain ⟨⟨⟨⟨hzi, hzt⟩, hzn⟩, hzb⟩, hze⟩ := hok'
    have hso : ∀ x ∈ its.map (·.1), PyData.strOk x = true := fun x hx => by
      obtain ⟨p, hp, rfl⟩ := List.mem_map.mp hx
      exact (hzt p hp).2
    try k_fold
    (repeat' ((fail_if_success (with_reducible show wpAny _ _ (exec (Stmt.While _ _ _ _) _) _ _ _)); (fail_if_success (with_reducible show wpAny _ _ (exec (Stmt.For _ _ _ _ _) _) _ _ _)); (fail_if_success (with_reducible show wpAny _ _ (pyIter _) _ _ _)); (fail_if_success (with_reducible show wpAny _ _ (exec (Stmt.If _ _ _ _) _) _ _ _)); (fail_if_success (with_reducible show JoinPost _ _ _ _ _ _ _ _)); (fail_if_success (with_reducible show wpAny _ _ (call (Value.builtin "dict.get") _) _ _ _)); (fail_if_success (with_reducible show wpAny _ _ (call (Value.ref 28) _) _ _ _)); (fail_if_success (with_reducible show wpAny _ _ (call (Value.ref 35) _) _ _ _)); (fail_if_success (with_reducible show wpAny _ _ (call (Value.ref 21) _) _ _ _)); (fail_if_success (with_reducible show wpAny _ _ (call (Value.ref 56) _) _ _ _)); (fail_if_success (with_reducible show wpAny _ _ (eval (PySem.Expr.Dict (_ :: _) _ _) _) _ _ _)); (fail_if_success (with_reducible show wpAny _ _ (call (Value.builtin "str.split") _) _ _ _)); (fail_if_success (with_reducible show KswEnd _ _ _ _ _ _ _ _ _ _ _ _)); (fail_if_success (with_reducible show FlEnd _ _ _ _ _ _ _ _ _ _ _)); (first | (k_unfold; (try dsimp only)) | (k_end; wrow_close) | walk1 | (dsimp only; walk1) | (dsimp only [List.cons_append, List.nil_append]; walk1) | (leave1; walk_say "STEP leave1"; try dsimp only) | fail "no step")))
    · rename (List.map _ its = _) => hemp
      rename News h₀ L _ _ => N9
      have hits : its = [] := List.map_eq_nil_iff.mp hemp
      subst hits
      refine hret _ _ _ _ ⟨_, Nt, Bk, nts, en, ob', kvs, made, rfl, rfl, ?_, hob, ?_, loB, fun p hp => Nat.lt_trans (l1 p hp) hHN, hNB, hmade⟩ (by assumption) (fun p hp => N9 p ?_)
      · have e9 : some (nts.map (·.1), bk) = some R := hrn
        rw [← Option.some.inj e9]
      · have e9 : some (nts.map (·.1), bk) = some R := hrn
        rw [← Option.some.inj e9]; exact hbr
      · rcases List.mem_cons.mp hp with rfl | hp
        · exact List.mem_cons_self
        · exact List.mem_cons_of_mem _ (List.mem_cons_of_mem _ (List.mem_cons_of_mem _ hp))
    · rename (¬ _ = _) => hne
      have hne' : its ≠ [] := fun e => hne (by rw [e])
      have N3 : News _ _ _ _ := kti_tail (by assumption)
      k_dflt (refine' spec_use (pop_spec' w Hp its eh _ ?pc1 hne' ?pc3) ?k1 ?k2 ?k3 N3 ?k5 ?k6 ?k7 ?k8 ?_)
      (case pc1 => exact List.forall_mem_cons.mpr ⟨Nat.ne_of_gt hHN, List.forall_mem_cons.mpr ⟨Nat.ne_of_gt hHB, hmH⟩⟩)
      (case pc3 => omega)
      (case k1 => k_asm); (case k2 => k_asm); (case k3 => k_asm); (case k5 => k_asm); (case k6 => exact rfl); (case k7 => ktr_room); (case k8 => ktr_units)
      rintro r' news' h' tk' ⟨⟨⟨text, tt⟩, htext, rfl⟩, rfl⟩ F4 N4
      dsimp only [strV]
      obtain ⟨itr, rfl⟩ : ∃ itr, its = (text, tt) :: itr := by
        cases its with
        | nil => cases htext
        | cons p r => cases htext; exact ⟨r, rfl⟩
      have htl : text.length < 10 := (hzt _ (List.mem_of_getElem? htext)).1
      (repeat' ((fail_if_success (with_reducible show wpAny _ _ (exec (Stmt.While _ _ _ _) _) _ _ _)); (fail_if_success (with_reducible show wpAny _ _ (exec (Stmt.For _ _ _ _ _) _) _ _ _)); (fail_if_success (with_reducible show wpAny _ _ (pyIter _) _ _ _)); (fail_if_success (with_reducible show wpAny _ _ (exec (Stmt.If _ _ _ _) _) _ _ _)); (fail_if_success (with_reducible show JoinPost _ _ _ _ _ _ _ _)); (fail_if_success (with_reducible show wpAny _ _ (call (Value.builtin "dict.get") _) _ _ _)); (fail_if_success (with_reducible show wpAny _ _ (call (Value.ref 28) _) _ _ _)); (fail_if_success (with_reducible show wpAny _ _ (call (Value.ref 35) _) _ _ _)); (fail_if_success (with_reducible show wpAny _ _ (call (Value.ref 21) _) _ _ _)); (fail_if_success (with_reducible show wpAny _ _ (call (Value.ref 56) _) _ _ _)); (fail_if_success (with_reducible show wpAny _ _ (eval (PySem.Expr.Dict (_ :: _) _ _) _) _ _ _)); (fail_if_success (with_reducible show wpAny _ _ (call (Value.builtin "str.split") _) _ _ _)); (fail_if_success (with_reducible show KswEnd _ _ _ _ _ _ _ _ _ _ _ _)); (fail_if_success (with_reducible show FlEnd _ _ _ _ _ _ _ _ _ _ _)); (first | (k_unfold; (try dsimp only)) | (k_end; wrow_close) | walk1 | (dsimp only; walk1) | (dsimp only [List.cons_append, List.nil_append]; walk1) | (leave1; walk_say "STEP leave1"; try dsimp only) | fail "no step")))
      k_dflt (refine' spec_use (ell_spec w (pat word) text _ _ _ mid (by omega) (by omega) hin hsp hmid) ?k1 ?k2 ?k3 ?k4 ?k5 ?k6 ?k7 ?k8 ?_)
      (case k1 => k_asm); (case k2 => k_asm); (case k3 => k_asm); (case k4 => k_asm); (case k5 => k_asm); (case k6 => exact rfl); (case k7 => ktr_room); (case k8 => ktr_units)
      rintro r' news' h' tk' ⟨rfl, rfl⟩ F5 N5
      (repeat' ((fail_if_success (with_reducible show wpAny _ _ (exec (Stmt.While _ _ _ _) _) _ _ _)); (fail_if_success (with_reducible show wpAny _ _ (exec (Stmt.For _ _ _ _ _) _) _ _ _)); (fail_if_success (with_reducible show wpAny _ _ (pyIter _) _ _ _)); (fail_if_success (with_reducible show wpAny _ _ (exec (Stmt.If _ _ _ _) _) _ _ _)); (fail_if_success (with_reducible show JoinPost _ _ _ _ _ _ _ _)); (fail_if_success (with_reducible show wpAny _ _ (call (Value.builtin "dict.get") _) _ _ _)); (fail_if_success (with_reducible show wpAny _ _ (call (Value.ref 28) _) _ _ _)); (fail_if_success (with_reducible show wpAny _ _ (call (Value.ref 35) _) _ _ _)); (fail_if_success (with_reducible show wpAny _ _ (call (Value.ref 21) _) _ _ _)); (fail_if_success (with_reducible show wpAny _ _ (call (Value.ref 56) _) _ _ _)); (fail_if_success (with_reducible show wpAny _ _ (eval (PySem.Expr.Dict (_ :: _) _ _) _) _ _ _)); (fail_if_success (with_reducible show wpAny _ _ (call (Value.builtin "str.split") _) _ _ _)); (fail_if_success (with_reducible show KswEnd _ _ _ _ _ _ _ _ _ _ _ _)); (fail_if_success (with_reducible show FlEnd _ _ _ _ _ _ _ _ _ _ _)); (first | (k_unfold; (try dsimp only)) | (k_end; wrow_close) | walk1 | (dsimp only; walk1) | (dsimp only [List.cons_append, List.nil_append]; walk1) | (leave1; walk_say "STEP leave1"; try dsimp only) | fail "no step")))
      have hkl : kvs.length < 1000 := by rw [hbr.length]; omega
      rename Fr _ _ _ _ => F6
      generalize hell : ellLoop text (Str.ofString "" :: (mid ++ [Str.ofString ""])) 0 = b at F6
      refine join_if (Str.ofString "entry") (fun De news => ∃ its2 eh2 nts2 en2 ent de oe ta tb tc te, news = (De, tup5 ent.1 ent.2.1 ent.2.2.1 ent.2.2.2.1 ta tb tc te de) :: (de, oe) :: (Hp, listOf (strL its2).toArray eh2) :: (Nt, listOf (strL nts2).toArray en2) :: (Bk, ob') :: (made ++ rest) ∧ (de == sysModules) = false ∧ IsD w oe ent.2.2.2.2 ∧ ent.2.2.2.2.length < 2 ∧ Bk < de ∧ de < De ∧
        (its2.map (·.1), nts2.map (·.1), putB bk (text.length : Int) (addE ((findB bk (text.length : Int)).getD e0) ent)) = stepG mid (Txt.item sg 0) (Txt.item sg 1) (((text, tt) :: itr).map (·.1), nts.map (·.1), bk)) F6 ?jwalk ?jtail
      case jwalk =>
        cases b with
        | true =>
          try k_fold
          walk1
          (repeat' ((fail_if_success (with_reducible show wpAny _ _ (exec (Stmt.While _ _ _ _) _) _ _ _)); (fail_if_success (with_reducible show wpAny _ _ (exec (Stmt.For _ _ _ _ _) _) _ _ _)); (fail_if_success (with_reducible show wpAny _ _ (pyIter _) _ _ _)); (fail_if_success (with_reducible show wpAny _ _ (exec (Stmt.If _ _ _ _) _) _ _ _)); (fail_if_success (with_reducible show JoinPost _ _ _ _ _ _ _ _)); (fail_if_success (with_reducible show wpAny _ _ (call (Value.builtin "dict.get") _) _ _ _)); (fail_if_success (with_reducible show wpAny _ _ (call (Value.ref 28) _) _ _ _)); (fail_if_success (with_reducible show wpAny _ _ (call (Value.ref 35) _) _ _ _)); (fail_if_success (with_reducible show wpAny _ _ (call (Value.ref 21) _) _ _ _)); (fail_if_success (with_reducible show wpAny _ _ (call (Value.ref 56) _) _ _ _)); (fail_if_success (with_reducible show wpAny _ _ (eval (PySem.Expr.Dict (_ :: _) _ _) _) _ _ _)); (fail_if_success (with_reducible show wpAny _ _ (call (Value.builtin "str.split") _) _ _ _)); (fail_if_success (with_reducible show KswEnd _ _ _ _ _ _ _ _ _ _ _ _)); (fail_if_success (with_reducible show FlEnd _ _ _ _ _ _ _ _ _ _ _)); (first | (k_unfold; (try dsimp only)) | (k_end; wrow_close) | walk1 | (dsimp only; walk1) | (dsimp only [List.cons_append, List.nil_append]; walk1) | (leave1; walk_say "STEP leave1"; try dsimp only) | fail "no step")))
          have hcb := count_bounds text (Txt.item sg 0)
          have hm1 := len_mul_leN (x := Txt.item sg 0) (n := Txt.count text (Txt.item sg 0)) (L := 1) (N := 20) (by omega) (by omega)
          have hm2 := len_mul_leN (x := Txt.item sg 1) (n := (text.length : Int) - Txt.count text (Txt.item sg 0)) (L := 1) (N := 20) (by omega) (by omega)
          rename Fr _ _ _ _ => F6
          rename News _ _ _ _ => N6a
          k_dflt (refine kdn_eval (knd := PySem.strKind _ _) F6 N6a (Top.nolimit (by k_asm)) rfl rfl (List.cons_ne_nil _ _) (Nat.le_of_ble_eq_true rfl) ?_)
          intro de h6 oe F7 N7 l7 loe hde
          have hBde := l7 (Bk, ob') (by k_mem)
          try k_lt l7
          try dsimp only
          (repeat' ((fail_if_success (with_reducible show wpAny _ _ (exec (Stmt.While _ _ _ _) _) _ _ _)); (fail_if_success (with_reducible show wpAny _ _ (exec (Stmt.For _ _ _ _ _) _) _ _ _)); (fail_if_success (with_reducible show wpAny _ _ (pyIter _) _ _ _)); (fail_if_success (with_reducible show wpAny _ _ (exec (Stmt.If _ _ _ _) _) _ _ _)); (fail_if_success (with_reducible show JoinPost _ _ _ _ _ _ _ _)); (fail_if_success (with_reducible show wpAny _ _ (call (Value.builtin "dict.get") _) _ _ _)); (fail_if_success (with_reducible show wpAny _ _ (call (Value.ref 28) _) _ _ _)); (fail_if_success (with_reducible show wpAny _ _ (call (Value.ref 35) _) _ _ _)); (fail_if_success (with_reducible show wpAny _ _ (call (Value.ref 21) _) _ _ _)); (fail_if_success (with_reducible show wpAny _ _ (call (Value.ref 56) _) _ _ _)); (fail_if_success (with_reducible show wpAny _ _ (eval (PySem.Expr.Dict (_ :: _) _ _) _) _ _ _)); (fail_if_success (with_reducible show wpAny _ _ (call (Value.builtin "str.split") _) _ _ _)); (fail_if_success (with_reducible show KswEnd _ _ _ _ _ _ _ _ _ _ _ _)); (fail_if_success (with_reducible show FlEnd _ _ _ _ _ _ _ _ _ _ _)); (first | (k_unfold; (try dsimp only)) | (k_end; wrow_close) | walk1 | (dsimp only; walk1) | (dsimp only [List.cons_append, List.nil_append]; walk1) | (leave1; walk_say "STEP leave1"; try dsimp only) | fail "no step")))
          rename Obj.IsDictOf (strKind _ _) _ (_ :: _) => hs2
          have DE : IsD w _ [(Txt.mul (Txt.item sg 0) (Txt.count text (Txt.item sg 0)) ++ Txt.mul (Txt.item sg 1) ((text.length : Int) - Txt.count text (Txt.item sg 0)), 1)] := ⟨_, hs2, by assumption⟩
          rename (_ < _ ∧ Hp < _ ∧ Nt < _ ∧ Bk < _ ∧ _) => l9
          rename Fr _ _ _ _ => F9
          rename News _ _ _ _ => N9
          refine join_end F9 N9 ⟨popL ltT ((text, tt) :: itr), eh + 1, nts ++ [(text, tt)], en + 1, entY text (Txt.item sg 0) (Txt.item sg 1), de, _, _, _, _, _, rfl, loe, DE, Nat.lt_succ_self 1, hBde, l9.1, ?_⟩ ?_
          · rw [List.map_append, map_popL (·.1) ltT ltS ltT_ltS]
            show _ = if ellLoop text (Str.ofString "" :: (mid ++ [Str.ofString ""])) 0 = true then _ else _
            rw [if_pos hell]
            rfl
          · intro y; rfl
        | false =>
          try k_fold
          walk1
          (repeat' ((fail_if_success (with_reducible show wpAny _ _ (exec (Stmt.While _ _ _ _) _) _ _ _)); (fail_if_success (with_reducible show wpAny _ _ (exec (Stmt.For _ _ _ _ _) _) _ _ _)); (fail_if_success (with_reducible show wpAny _ _ (pyIter _) _ _ _)); (fail_if_success (with_reducible show wpAny _ _ (exec (Stmt.If _ _ _ _) _) _ _ _)); (fail_if_success (with_reducible show JoinPost _ _ _ _ _ _ _ _)); (fail_if_success (with_reducible show wpAny _ _ (call (Value.builtin "dict.get") _) _ _ _)); (fail_if_success (with_reducible show wpAny _ _ (call (Value.ref 28) _) _ _ _)); (fail_if_success (with_reducible show wpAny _ _ (call (Value.ref 35) _) _ _ _)); (fail_if_success (with_reducible show wpAny _ _ (call (Value.ref 21) _) _ _ _)); (fail_if_success (with_reducible show wpAny _ _ (call (Value.ref 56) _) _ _ _)); (fail_if_success (with_reducible show wpAny _ _ (eval (PySem.Expr.Dict (_ :: _) _ _) _) _ _ _)); (fail_if_success (with_reducible show wpAny _ _ (call (Value.builtin "str.split") _) _ _ _)); (fail_if_success (with_reducible show KswEnd _ _ _ _ _ _ _ _ _ _ _ _)); (fail_if_success (with_reducible show FlEnd _ _ _ _ _ _ _ _ _ _ _)); (first | (k_unfold; (try dsimp only)) | (k_end; wrow_close) | walk1 | (dsimp only; walk1) | (dsimp only [List.cons_append, List.nil_append]; walk1) | (leave1; walk_say "STEP leave1"; try dsimp only) | fail "no step")))
          rename Obj.IsDictOf (strKind _ _) _ [] => hs2
          have De : IsD w _ [] := ⟨[], hs2, PyProof.V.FlatPairs.nil⟩
          clear hs2
          rename (_ < _ ∧ Hp < _ ∧ Nt < _ ∧ Bk < _ ∧ _) => l9
          have hdD := l9.1
          rename (Hp < _ ∧ Nt < _ ∧ Bk < _ ∧ _) => l8
          have hBd := l8.2.2.1
          walk1
          (repeat' ((fail_if_success (with_reducible show wpAny _ _ (exec (Stmt.While _ _ _ _) _) _ _ _)); (fail_if_success (with_reducible show wpAny _ _ (exec (Stmt.For _ _ _ _ _) _) _ _ _)); (fail_if_success (with_reducible show wpAny _ _ (pyIter _) _ _ _)); (fail_if_success (with_reducible show wpAny _ _ (exec (Stmt.If _ _ _ _) _) _ _ _)); (fail_if_success (with_reducible show JoinPost _ _ _ _ _ _ _ _)); (fail_if_success (with_reducible show wpAny _ _ (call (Value.builtin "dict.get") _) _ _ _)); (fail_if_success (with_reducible show wpAny _ _ (call (Value.ref 28) _) _ _ _)); (fail_if_success (with_reducible show wpAny _ _ (call (Value.ref 35) _) _ _ _)); (fail_if_success (with_reducible show wpAny _ _ (call (Value.ref 21) _) _ _ _)); (fail_if_success (with_reducible show wpAny _ _ (call (Value.ref 56) _) _ _ _)); (fail_if_success (with_reducible show wpAny _ _ (eval (PySem.Expr.Dict (_ :: _) _ _) _) _ _ _)); (fail_if_success (with_reducible show wpAny _ _ (call (Value.builtin "str.split") _) _ _ _)); (fail_if_success (with_reducible show KswEnd _ _ _ _ _ _ _ _ _ _ _ _)); (fail_if_success (with_reducible show FlEnd _ _ _ _ _ _ _ _ _ _ _)); (first | (k_unfold; (try dsimp only)) | (k_end; wrow_close) | walk1 | (dsimp only; walk1) | (dsimp only [List.cons_append, List.nil_append]; walk1) | (leave1; walk_say "STEP leave1"; try dsimp only) | fail "no step")))
          · rename (_ < (5 : Int)) => hn5
            have hn5' : text.length < 5 := by omega
            rename News _ _ _ _ => N6a
            have N6b := news_rot2 N6a
            have hpz := popL_length ltT ((text, tt) :: itr)
            k_dflt (refine' spec_use (push_spec w Hp _ _ _ _ _ ?pr1 ?pz1) ?k1 ?k2 ?k3 N6b ?k5 ?k6 ?k7 ?k8 ?_)
            (case pr1 => k_all)
            (case pz1 => omega)
            (case k1 => k_asm); (case k2 => k_asm); (case k3 => k_asm); (case k5 => k_asm); (case k6 => exact rfl); (case k7 => ktr_room); (case k8 => ktr_units)
            rintro r' news' h' tk' ⟨rfl, rfl⟩ F7 N7
            (repeat' ((fail_if_success (with_reducible show wpAny _ _ (exec (Stmt.While _ _ _ _) _) _ _ _)); (fail_if_success (with_reducible show wpAny _ _ (exec (Stmt.For _ _ _ _ _) _) _ _ _)); (fail_if_success (with_reducible show wpAny _ _ (pyIter _) _ _ _)); (fail_if_success (with_reducible show wpAny _ _ (exec (Stmt.If _ _ _ _) _) _ _ _)); (fail_if_success (with_reducible show JoinPost _ _ _ _ _ _ _ _)); (fail_if_success (with_reducible show wpAny _ _ (call (Value.builtin "dict.get") _) _ _ _)); (fail_if_success (with_reducible show wpAny _ _ (call (Value.ref 28) _) _ _ _)); (fail_if_success (with_reducible show wpAny _ _ (call (Value.ref 35) _) _ _ _)); (fail_if_success (with_reducible show wpAny _ _ (call (Value.ref 21) _) _ _ _)); (fail_if_success (with_reducible show wpAny _ _ (call (Value.ref 56) _) _ _ _)); (fail_if_success (with_reducible show wpAny _ _ (eval (PySem.Expr.Dict (_ :: _) _ _) _) _ _ _)); (fail_if_success (with_reducible show wpAny _ _ (call (Value.builtin "str.split") _) _ _ _)); (fail_if_success (with_reducible show KswEnd _ _ _ _ _ _ _ _ _ _ _ _)); (fail_if_success (with_reducible show FlEnd _ _ _ _ _ _ _ _ _ _ _)); (first | (k_unfold; (try dsimp only)) | (k_end; wrow_close) | walk1 | (dsimp only; walk1) | (dsimp only [List.cons_append, List.nil_append]; walk1) | (leave1; walk_say "STEP leave1"; try dsimp only) | fail "no step")))
            k_dflt (refine' spec_use (push_spec w Hp _ _ _ _ _ ?pr2 ?pz2) ?k1 ?k2 ?k3 ?k4 ?k5 ?k6 ?k7 ?k8 ?_)
            (case k4 => k_asm)
            (case pr2 => k_all)
            (case pz2 => simp only [siftdown_length, List.length_append, List.length_cons, List.length_nil]; omega)
            (case k1 => k_asm); (case k2 => k_asm); (case k3 => k_asm); (case k5 => k_asm); (case k6 => exact rfl); (case k7 => ktr_room); (case k8 => ktr_units)
            rintro r' news' h' tk' ⟨rfl, rfl⟩ F7 N7
            (repeat' ((fail_if_success (with_reducible show wpAny _ _ (exec (Stmt.While _ _ _ _) _) _ _ _)); (fail_if_success (with_reducible show wpAny _ _ (exec (Stmt.For _ _ _ _ _) _) _ _ _)); (fail_if_success (with_reducible show wpAny _ _ (pyIter _) _ _ _)); (fail_if_success (with_reducible show wpAny _ _ (exec (Stmt.If _ _ _ _) _) _ _ _)); (fail_if_success (with_reducible show JoinPost _ _ _ _ _ _ _ _)); (fail_if_success (with_reducible show wpAny _ _ (call (Value.builtin "dict.get") _) _ _ _)); (fail_if_success (with_reducible show wpAny _ _ (call (Value.ref 28) _) _ _ _)); (fail_if_success (with_reducible show wpAny _ _ (call (Value.ref 35) _) _ _ _)); (fail_if_success (with_reducible show wpAny _ _ (call (Value.ref 21) _) _ _ _)); (fail_if_success (with_reducible show wpAny _ _ (call (Value.ref 56) _) _ _ _)); (fail_if_success (with_reducible show wpAny _ _ (eval (PySem.Expr.Dict (_ :: _) _ _) _) _ _ _)); (fail_if_success (with_reducible show wpAny _ _ (call (Value.builtin "str.split") _) _ _ _)); (fail_if_success (with_reducible show KswEnd _ _ _ _ _ _ _ _ _ _ _ _)); (fail_if_success (with_reducible show FlEnd _ _ _ _ _ _ _ _ _ _ _)); (first | (k_unfold; (try dsimp only)) | (k_end; wrow_close) | walk1 | (dsimp only; walk1) | (dsimp only [List.cons_append, List.nil_append]; walk1) | (leave1; walk_say "STEP leave1"; try dsimp only) | fail "no step")))
            rename Fr _ _ _ _ => F9
            rename News _ _ _ _ => N9
            have N10 := news_rot1 N9
            refine join_end F9 N10 ⟨_, _, nts, en, entN, _, _, _, _, _, _, rfl, by assumption, De, by decide, hBd, hdD, ?_⟩ ?_
            · rw [map_pushL, map_pushL, map_popL (·.1) ltT ltS ltT_ltS]
              show _ = if ellLoop text (Str.ofString "" :: (mid ++ [Str.ofString ""])) 0 = true then _ else _
              rw [if_neg (by rw [hell]; decide), if_pos hn5']
            · intro y; rfl
          · rename (¬ _ < (5 : Int)) => hn5
            have hn5' : ¬ text.length < 5 := by omega
            rename Fr _ _ _ _ => F9
            rename News _ _ _ _ => N9
            refine join_end F9 N9 ⟨popL ltT ((text, tt) :: itr), eh + 1, nts, en, entN, _, _, _, _, _, _, rfl, by assumption, De, by decide, hBd, hdD, ?_⟩ ?_
            · rw [map_popL (·.1) ltT ltS ltT_ltS]
              show _ = if ellLoop text (Str.ofString "" :: (mid ++ [Str.ofString ""])) 0 = true then _ else _
              rw [if_neg (by rw [hell]; decide), if_neg hn5']
            · intro y; rfl
      case jtail =>
        rintro De news h' tk' ⟨its2, eh2, nts2, en2, ent, de, oe, ta9, tb9, tc9, te9, rfl, loe, DE, hkve, hBde, hdeDe, hstep⟩ F7 N7
        have hBde' := ltN hBde
        have hdeDe' := ltN hdeDe
        try k_fold
        (repeat' ((fail_if_success (with_reducible show wpAny _ _ (exec (Stmt.While _ _ _ _) _) _ _ _)); (fail_if_success (with_reducible show wpAny _ _ (exec (Stmt.For _ _ _ _ _) _) _ _ _)); (fail_if_success (with_reducible show wpAny _ _ (pyIter _) _ _ _)); (fail_if_success (with_reducible show wpAny _ _ (exec (Stmt.If _ _ _ _) _) _ _ _)); (fail_if_success (with_reducible show JoinPost _ _ _ _ _ _ _ _)); (fail_if_success (with_reducible show wpAny _ _ (call (Value.builtin "dict.get") _) _ _ _)); (fail_if_success (with_reducible show wpAny _ _ (call (Value.ref 28) _) _ _ _)); (fail_if_success (with_reducible show wpAny _ _ (call (Value.ref 35) _) _ _ _)); (fail_if_success (with_reducible show wpAny _ _ (call (Value.ref 21) _) _ _ _)); (fail_if_success (with_reducible show wpAny _ _ (call (Value.ref 56) _) _ _ _)); (fail_if_success (with_reducible show wpAny _ _ (eval (PySem.Expr.Dict (_ :: _) _ _) _) _ _ _)); (fail_if_success (with_reducible show wpAny _ _ (call (Value.builtin "str.split") _) _ _ _)); (fail_if_success (with_reducible show KswEnd _ _ _ _ _ _ _ _ _ _ _ _)); (fail_if_success (with_reducible show FlEnd _ _ _ _ _ _ _ _ _ _ _)); (first | (k_unfold; (try dsimp only)) | (k_end; wrow_close) | walk1 | (dsimp only; walk1) | (dsimp only [List.cons_append, List.nil_append]; walk1) | (leave1; walk_say "STEP leave1"; try dsimp only) | fail "no step")))
        rename Obj.IsDictOf (strKind _ _) _ [] => hs2
        have Dd : IsD w _ [] := ⟨[], hs2, PyProof.V.FlatPairs.nil⟩
        rename News _ _ _ _ => N8
        obtain ⟨q1, ent1, hval, hfe, hent, hor⟩ := hbr.getN N8 (text.length : Int) (fun p hp => (by (repeat (refine List.mem_cons_of_mem _ ?_)); exact List.mem_append_left _ hp)) ⟨⟨_, _, _, _, _, _, (by k_mem), (by k_mem), (by assumption), Dd⟩⟩
        refine getB2 N8 (by k_mem) loB hob ?_
        rw [hval]
        obtain ⟨a1, b1, c1, e1, kv1⟩ := ent1
        obtain ⟨d1, o1, ta1, tb1, tc1, te1, hm1, hm2, lo1, D1⟩ := hent.ex
        dsimp only at hm1 hm2 lo1 D1
        have hkz : kv1.length < 50 := by
          rcases hor with e9 | e9
          · cases e9; decide
          · obtain ⟨q9, hq9, e9'⟩ := Option.map_eq_some_iff.mp e9
            have := hze q9 (List.mem_of_find?_eq_some hq9)
            rw [e9'] at this
            exact this
        clear hent hor hval
        (repeat' ((fail_if_success (with_reducible show wpAny _ _ (exec (Stmt.While _ _ _ _) _) _ _ _)); (fail_if_success (with_reducible show wpAny _ _ (exec (Stmt.For _ _ _ _ _) _) _ _ _)); (fail_if_success (with_reducible show wpAny _ _ (pyIter _) _ _ _)); (fail_if_success (with_reducible show wpAny _ _ (exec (Stmt.If _ _ _ _) _) _ _ _)); (fail_if_success (with_reducible show JoinPost _ _ _ _ _ _ _ _)); (fail_if_success (with_reducible show wpAny _ _ (call (Value.builtin "dict.get") _) _ _ _)); (fail_if_success (with_reducible show wpAny _ _ (call (Value.ref 28) _) _ _ _)); (fail_if_success (with_reducible show wpAny _ _ (call (Value.ref 35) _) _ _ _)); (fail_if_success (with_reducible show wpAny _ _ (call (Value.ref 21) _) _ _ _)); (fail_if_success (with_reducible show wpAny _ _ (call (Value.ref 56) _) _ _ _)); (fail_if_success (with_reducible show wpAny _ _ (eval (PySem.Expr.Dict (_ :: _) _ _) _) _ _ _)); (fail_if_success (with_reducible show wpAny _ _ (call (Value.builtin "str.split") _) _ _ _)); (fail_if_success (with_reducible show KswEnd _ _ _ _ _ _ _ _ _ _ _ _)); (fail_if_success (with_reducible show FlEnd _ _ _ _ _ _ _ _ _ _ _)); (first | (k_unfold; (try dsimp only)) | (k_end; wrow_close) | walk1 | (dsimp only; walk1) | (dsimp only [List.cons_append, List.nil_append]; walk1) | (leave1; walk_say "STEP leave1"; try dsimp only) | fail "no step")))
        rename News _ _ _ _ => N9
        k_dflt (refine' spec_use (addf_spec w q1 De d1 de o1 oe kv1 ent.2.2.2.2 _ a1 b1 c1 e1 ent.1 ent.2.1 ent.2.2.1 ent.2.2.2.1 ta1 tb1 tc1 te1 ta9 tb9 tc9 te9 hm1 ?fm2 hm2 ?fm4 lo1 loe D1 DE (by omega) (by omega)) ?k1 ?k2 ?k3 N9 ?k5 ?k6 ?k7 ?k8 ?_)
        (case fm2 => k_mem); (case fm4 => k_mem)
        (case k1 => k_asm); (case k2 => k_asm); (case k3 => k_asm); (case k5 => k_asm); (case k6 => exact rfl); (case k7 => ktr_room); (case k8 => ktr_units)
        rintro r' news' h' tk' ⟨t3, d3, o3, ta, tb, tc, te, rfl, rfl, hl3, hd3, lo3, D3⟩ F10 N10
        have hB3 := ltN (hl3 (Bk, ob') (by k_mem))
        have hd3' := ltN hd3
        dsimp only at hB3 hd3'
        (repeat' ((fail_if_success (with_reducible show wpAny _ _ (exec (Stmt.While _ _ _ _) _) _ _ _)); (fail_if_success (with_reducible show wpAny _ _ (exec (Stmt.For _ _ _ _ _) _) _ _ _)); (fail_if_success (with_reducible show wpAny _ _ (pyIter _) _ _ _)); (fail_if_success (with_reducible show wpAny _ _ (exec (Stmt.If _ _ _ _) _) _ _ _)); (fail_if_success (with_reducible show JoinPost _ _ _ _ _ _ _ _)); (fail_if_success (with_reducible show wpAny _ _ (call (Value.builtin "dict.get") _) _ _ _)); (fail_if_success (with_reducible show wpAny _ _ (call (Value.ref 28) _) _ _ _)); (fail_if_success (with_reducible show wpAny _ _ (call (Value.ref 35) _) _ _ _)); (fail_if_success (with_reducible show wpAny _ _ (call (Value.ref 21) _) _ _ _)); (fail_if_success (with_reducible show wpAny _ _ (call (Value.ref 56) _) _ _ _)); (fail_if_success (with_reducible show wpAny _ _ (eval (PySem.Expr.Dict (_ :: _) _ _) _) _ _ _)); (fail_if_success (with_reducible show wpAny _ _ (call (Value.builtin "str.split") _) _ _ _)); (fail_if_success (with_reducible show KswEnd _ _ _ _ _ _ _ _ _ _ _ _)); (fail_if_success (with_reducible show FlEnd _ _ _ _ _ _ _ _ _ _ _)); (first | (k_unfold; (try dsimp only)) | (k_end; wrow_close) | walk1 | (dsimp only; walk1) | (dsimp only [List.cons_append, List.nil_append]; walk1) | (leave1; walk_say "STEP leave1"; try dsimp only) | fail "no step")))
        rename Fr _ _ _ _ => F11
        rename News _ _ _ _ => N11
        rename Obj.IsDictOf (intKind _ _) _ (PySem.stored _ _ _) => hob9
        refine ksw_end ⟨its2, eh2, nts2, en2, _, PySem.stored kvs (text.length : Int) (.ref t3), putB bk (text.length : Int) (addE (a1, b1, c1, e1, kv1) ent), (t3, tup5 (ent.1 + a1) (ent.2.1 + b1) (ent.2.2.1 + c1) (ent.2.2.2.1 + e1) ta tb tc te d3) :: (d3, o3) :: made, fuel'⟩ F11 N11 ?subx trivial (List.forall_mem_nil _) (by ksw_same) ⟨?runx, hob9, ?brx, ?mkx⟩ (Nat.lt_succ_self fuel')
        case subx =>
          intro p hp
          dsimp only at hp
          simp only [List.cons_append, List.mem_cons] at hp
          rcases hp with rfl | rfl | rfl | rfl | rfl | hp
          all_goals first | k_mem | ((repeat (refine List.mem_cons_of_mem _ ?_)); exact hp)
        case brx => exact (hbr.mono fun p hp => List.mem_cons_of_mem _ (List.mem_cons_of_mem _ hp)).put (t := t3) (e := addE (a1, b1, c1, e1, kv1) ent) ⟨⟨d3, o3, ta, tb, tc, te, List.mem_cons_self, List.mem_cons_of_mem _ List.mem_cons_self, lo3, D3⟩⟩ _
        case mkx => exact List.forall_mem_cons.mpr ⟨Nat.lt_trans hB3 hd3', List.forall_mem_cons.mpr ⟨hB3, hmade⟩⟩
        case runx =>
          dsimp only
          rw [hfe] at hstep
          rw [hstep]
          exact hrn
end
section
variable {prog : Program} {w : World} {A : Around} {E : Value → Shared → Prop} {s : Shared} {env : Env} {h₀ : Heap} {x : Str} {body : List Stmt} {Q : Flow → Shared → Prop}
theorem fl_range {σ : Type} {r : Addr} {a₀ b₀ : Int} {t₀ u₀ v₀ : Tok} {n : Nat} {m₀ : Str → Option Value} (Ld : σ → Led) (ps : σ → List (Str × Value)) (stored : List Str) (P : Nat → σ → Prop) (c₀ : σ)
    (hh : A.handled = none) (hr : IsRange s.heap r a₀ b₀ 1 t₀ u₀ v₀) (hsmall : Builtin.Range.small a₀ b₀ 1 = true) (hn : Builtin.Range.rangeSize a₀ b₀ 1 = (n : Int)) (F : Fr h₀ env.locals s.heap m₀) (N : News h₀ env.locals s.heap (Ld c₀))
    (hk : ∀ p ∈ ps c₀, m₀ p.1 = some p.2) (hp : P 0 c₀)
    (turn : ∀ (I : Addr) (it : Obj) (i : Nat) (c : σ) (u : Str → Option Value) (t : Tok) h tk, (∀ p ∈ Ld c₀, p.1 < I) → i < n → P i c → Fr h₀ env.locals h (fun y => if y = x then some (.int (a₀ + (i : Int)) t) else kstB (fun z => if stored.contains z then u z else m₀ z) (ps c) y) → News h₀ env.locals h ((I, it) :: Ld c) →
      wpAny (model prog w) A (execs body env) (FlPost h₀ env.locals s I it Ld ps stored m₀ (P (i + 1)) Q) E { s with heap := h, toks := tk })
    (done : ∀ (c : σ) (u : Str → Option Value) h tk, P n c → Fr h₀ env.locals h (kstB (fun z => if stored.contains z then u z else m₀ z) (ps c)) → News h₀ env.locals h (Ld c) → Q .next { s with heap := h, toks := tk }) :
    wpAny (model prog w) A (pyIter (.ref r)) (fun it s₂ => LoopAtV prog w A h₀ env x body Q E it s₂) E s := by
  refine iter_rangeUnr hh hr hsmall hn F N fun I hI => ?_
  have key : ∀ (k i : Nat) (c : σ) (m : Str → Option Value), i + k = n → P i c → (∀ p ∈ ps c, m p.1 = some p.2) → (∀ z, (∀ p ∈ ps c, z ≠ p.1) → stored.contains z = false → m z = m₀ z) → RangeRest prog w A E h₀ env x body Q s I a₀ n k i m (Ld c) := by
    intro k
    induction k with
    | zero =>
      intro i c m hik hP h1 h2
      refine RangeRest.zero fun h tk F' N' => ?_
      have : i = n := by omega
      subst this
      exact done c m h tk hP (ksw_fr h1 h2 F') N'
    | succ k ih =>
      intro i c m hik hP h1 h2
      refine RangeRest.succ fun t h tk F' N' => ?_
      have em : kstB (fun z => if stored.contains z then m z else m₀ z) (ps c) = m := by
        funext y
        refine kstB_eq h1 fun hn => ?_
        show (if stored.contains y = true then m y else m₀ y) = m y
        cases h3 : stored.contains y with
        | true => simp
        | false => simp only [Bool.false_eq_true, if_false]; exact (h2 y hn h3).symm
      refine wpAny_mono (turn I _ i c m t h tk hI (by omega) hP (by rw [em]; exact F') N') (fun f s₂ q => ?_) fun _ _ e => e
      have fin : ∀ it, FlEnd h₀ env.locals s I it Ld ps stored m₀ (P (i + 1)) s₂ → UnrEnd h₀ env.locals { s with heap := h, toks := tk } I it (RangeRest prog w A E h₀ env x body Q s I a₀ n k (i + 1)) s₂ := by
        rintro it ⟨c', h', tk', m', news', rfl, F', N', hn, ho, hk', hr', hp'⟩
        exact ⟨h', tk', m', Ld c', rfl, F', fun p hp => N' p (hn p hp), ho, ih (i + 1) c' m' (by omega) hp' hk' hr'⟩
      cases f with
      | ret v => exact q
      | brk => exact q
      | next => exact fin _ q
      | cont => exact fin _ q
  exact key n 0 c₀ m₀ (by omega) hp hk fun _ _ _ => rfl
end

theorem range_small {a b : Int} (h1 : -1000 < a) (h2 : b < 1000) (h3 : a < 1000) (h4 : -1000 < b) : Builtin.Range.small a b 1 = true := small_one (by omega) (by omega) (by omega) (by omega)
theorem range_size (a b : Int) : Builtin.Range.rangeSize a b 1 = ((b - a).toNat : Int) := by
  simp [Builtin.Range.rangeSize]
  omega
section
theorem cc_spec (w : World) (d : Addr) (o : Obj) (kv : List (Str × Int)) (news : Led) (hm : (d, o) ∈ news) (lo : (d == sysModules) = false) (D : IsD w o kv) :
    CallSpec w 70 [.ref d] news 1 8 (fun r news' => (∃ t, r = .int (kv.map (·.2)).sum t) ∧ news' = news) := by
  w_top off
  unfold CallSpec
  k_fill
  intro mean mg mb dp un gd cn cs a ccd cl outer A₀ base h₀ L m s Q E B F X N T hk hd hu hret
  refine wpAny_call ?_
  k_dflt ktr_enter
  (repeat' ((fail_if_success (with_reducible show wpAny _ _ (exec (Stmt.While _ _ _ _) _) _ _ _)); (fail_if_success (with_reducible show wpAny _ _ (exec (Stmt.For _ _ _ _ _) _) _ _ _)); (fail_if_success (with_reducible show wpAny _ _ (pyIter _) _ _ _)); (fail_if_success (with_reducible show wpAny _ _ (call (Value.builtin "str.split") _) _ _ _)); (fail_if_success (with_reducible show KswEnd _ _ _ _ _ _ _ _ _ _ _ _)); (fail_if_success (with_reducible show FlEnd _ _ _ _ _ _ _ _ _ _ _)); (first | (k_unfold; (try dsimp only)) | (k_end; wrow_close) | walk1 | (dsimp only; walk1) | (dsimp only [List.cons_append, List.nil_append]; walk1) | (leave1; walk_say "STEP leave1"; try dsimp only) | fail "no step")))
  rename Fr _ _ _ _ => F1
  rename News _ _ _ _ => N1
  with_unfolding_all refine For_turns F1 ?_
  with_unfolding_all refine MethodCall_ ?_
  k_dflt refine ld F1 (by rfl) ?_
  with_unfolding_all refine getMethod_tab PySem.F.slot_dict_values PySem.F.type_dict_values (tabD N1 hm lo D) ?_
  with_unfolding_all refine callWith_method0 ?_
  with_unfolding_all refine call_values_tab (tabD N1 hm lo D) F1 N1 ?_
  intro h5 o5 hv5 F5 N5
  replace N5 := kti_tail N5
  with_unfolding_all refine kti_vals (xs := (encD kv).map fun p => Itm.flat p.2) (by rfl) F5 N5 hv5 (tabD (s := { s with heap := h5 }) N5 hm lo D) hm rfl ?_
  intro I hI
  refine' fl_rest (σ := Int × Tok) (fun _ => news) (fun c => [(Str.ofString "nc", .int c.1 c.2)]) [Str.ofString "calls"] (fun r c => ∃ kr : List (Str × Int), r = (encD kr).map (fun p => Itm.flat p.2) ∧ c.1 + (kr.map (·.2)).sum = (kv.map (·.2)).sum) (0, ?tok) _ ?g1 ?g2 ?g3 ?g4 ?g5
  case g1 => exact fun c => ⟨hm, trivial⟩
  case g2 => exact List.forall_mem_cons.mpr ⟨by rfl, List.forall_mem_nil _⟩
  case g3 => exact ⟨kv, rfl, by simp⟩
  case g4 =>
    rintro it a r ⟨c, tc⟩ u v h tk ⟨kr, er, hrec⟩ hit hav F6 N6
    cases kr with
    | nil => cases er
    | cons p kr' =>
    obtain ⟨k, n⟩ := p
    injection er with e1 e2
    subst e1 e2
    obtain ⟨t8, rfl⟩ := PyProof.V.Flat.int_inv hav
    dsimp only [kstB] at F6 N6 hrec
    try k_fold
    (repeat' ((fail_if_success (with_reducible show wpAny _ _ (exec (Stmt.While _ _ _ _) _) _ _ _)); (fail_if_success (with_reducible show wpAny _ _ (exec (Stmt.For _ _ _ _ _) _) _ _ _)); (fail_if_success (with_reducible show wpAny _ _ (pyIter _) _ _ _)); (fail_if_success (with_reducible show wpAny _ _ (call (Value.builtin "str.split") _) _ _ _)); (fail_if_success (with_reducible show KswEnd _ _ _ _ _ _ _ _ _ _ _ _)); (fail_if_success (with_reducible show FlEnd _ _ _ _ _ _ _ _ _ _ _)); (first | (k_unfold; (try dsimp only)) | (k_end; wrow_close) | walk1 | (dsimp only; walk1) | (dsimp only [List.cons_append, List.nil_append]; walk1) | (leave1; walk_say "STEP leave1"; try dsimp only) | fail "no step")))
    rename Fr _ _ _ _ => F7
    rename News _ _ _ _ => N7
    refine' fl_end (c + n, ?tok2) F7 N7 (fun _ (h9 : _ ∈ _) => h9) (fun p hp => Nat.ne_of_lt (hI p hp)) ?ga ?gb ?gc
    case gb => ksw_same
    case ga => exact List.forall_mem_cons.mpr ⟨by rfl, List.forall_mem_nil _⟩
    case gc => exact ⟨kr', rfl, by rw [List.map_cons, List.sum_cons] at hrec; dsimp only at hrec ⊢; omega⟩
  case g5 =>
    rintro ⟨c, tc⟩ u h tk ⟨kr, er, hrec⟩ F6 N6
    cases kr with
    | cons p kr' => cases er
    | nil =>
    dsimp only [kstB] at F6 N6 hrec
    try k_fold
    (repeat' ((fail_if_success (with_reducible show wpAny _ _ (exec (Stmt.While _ _ _ _) _) _ _ _)); (fail_if_success (with_reducible show wpAny _ _ (exec (Stmt.For _ _ _ _ _) _) _ _ _)); (fail_if_success (with_reducible show wpAny _ _ (pyIter _) _ _ _)); (fail_if_success (with_reducible show wpAny _ _ (call (Value.builtin "str.split") _) _ _ _)); (fail_if_success (with_reducible show KswEnd _ _ _ _ _ _ _ _ _ _ _ _)); (fail_if_success (with_reducible show FlEnd _ _ _ _ _ _ _ _ _ _ _)); (first | (k_unfold; (try dsimp only)) | (k_end; wrow_close) | walk1 | (dsimp only; walk1) | (dsimp only [List.cons_append, List.nil_append]; walk1) | (leave1; walk_say "STEP leave1"; try dsimp only) | fail "no step")))
    refine hret _ _ _ _ ⟨⟨tc, ?_⟩, rfl⟩ (by assumption) (by assumption)
    rw [← hrec]; simp
end
section
def chW (n : Int) : Nat → Int
  | 0 => 1
  | i + 1 => (chW n i * (n - (i : Int))).fdiv ((i : Int) + 1)
theorem ch_spec (w : World) (n k : Int) (tn tk9 : Tok) (news : Led) (hn1 : -100 < n) (hn2 : n < 100) (hk0 : -100 < k) (hk1 : k < 100) (hb : ∀ i, i ≤ k.toNat → -1000000 < chW n i ∧ chW n i < 1000000) :
    CallSpec w 77 [.int n tn, .int k tk9] news 1 8 (fun r news' => (∃ t, r = .int (chW n k.toNat) t) ∧ news' = news) := by
  w_top off
  unfold CallSpec
  k_fill
  intro mean mg mb dp un gd cn cs a ccd cl outer A₀ base h₀ L m s Q E B F X N T hk hd hu hret
  refine wpAny_call ?_
  k_dflt ktr_enter
  (repeat' ((fail_if_success (with_reducible show wpAny _ _ (exec (Stmt.While _ _ _ _) _) _ _ _)); (fail_if_success (with_reducible show wpAny _ _ (exec (Stmt.For _ _ _ _ _) _) _ _ _)); (fail_if_success (with_reducible show wpAny _ _ (pyIter _) _ _ _)); (fail_if_success (with_reducible show wpAny _ _ (call (Value.builtin "str.split") _) _ _ _)); (fail_if_success (with_reducible show KswEnd _ _ _ _ _ _ _ _ _ _ _ _)); (fail_if_success (with_reducible show FlEnd _ _ _ _ _ _ _ _ _ _ _)); (first | (k_unfold; (try dsimp only)) | (k_end; wrow_close) | walk1 | (dsimp only; walk1) | (dsimp only [List.cons_append, List.nil_append]; walk1) | (leave1; walk_say "STEP leave1"; try dsimp only) | fail "no step")))
  rename Fr _ _ _ _ => F1
  refine For_invVF F1 rfl rfl ?_
  (repeat' ((fail_if_success (with_reducible show wpAny _ _ (exec (Stmt.While _ _ _ _) _) _ _ _)); (fail_if_success (with_reducible show wpAny _ _ (exec (Stmt.For _ _ _ _ _) _) _ _ _)); (fail_if_success (with_reducible show wpAny _ _ (pyIter _) _ _ _)); (fail_if_success (with_reducible show wpAny _ _ (call (Value.builtin "str.split") _) _ _ _)); (fail_if_success (with_reducible show KswEnd _ _ _ _ _ _ _ _ _ _ _ _)); (fail_if_success (with_reducible show FlEnd _ _ _ _ _ _ _ _ _ _ _)); (first | (k_unfold; (try dsimp only)) | (k_end; wrow_close) | walk1 | (dsimp only; walk1) | (dsimp only [List.cons_append, List.nil_append]; walk1) | (leave1; walk_say "STEP leave1"; try dsimp only) | fail "no step")))
  rename IsRange _ _ _ _ _ _ _ _ => hR
  rename Fr _ _ _ _ => F2
  rename News _ _ _ _ => N2
  refine' fl_range (σ := Int × Tok) (n := k.toNat) (fun _ => news) (fun c => [(Str.ofString "ways", .int c.1 c.2)]) [Str.ofString "i"] (fun i c => c.1 = chW n i) (1, ?tok) rfl hR (range_small (by decide) (by omega) (by decide) (by omega)) (by rw [range_size, Int.sub_zero]) F2 N2 ?g1 rfl ?g3 ?g4
  case g1 => exact List.forall_mem_cons.mpr ⟨by rfl, List.forall_mem_nil _⟩
  case g3 =>
    rintro I it i ⟨c, tc⟩ u t h tk hI hi hP F6 N6
    dsimp only [kstB] at F6 N6 hP
    have hb1 := hb i (by omega)
    have hb2 := hb (i + 1) (by omega)
    rw [← hP] at hb1
    try k_fold
    (repeat' ((fail_if_success (with_reducible show wpAny _ _ (exec (Stmt.While _ _ _ _) _) _ _ _)); (fail_if_success (with_reducible show wpAny _ _ (exec (Stmt.For _ _ _ _ _) _) _ _ _)); (fail_if_success (with_reducible show wpAny _ _ (pyIter _) _ _ _)); (fail_if_success (with_reducible show wpAny _ _ (call (Value.builtin "str.split") _) _ _ _)); (fail_if_success (with_reducible show KswEnd _ _ _ _ _ _ _ _ _ _ _ _)); (fail_if_success (with_reducible show FlEnd _ _ _ _ _ _ _ _ _ _ _)); (first | (k_unfold; (try dsimp only)) | (k_end; wrow_close) | walk1 | (dsimp only; walk1) | (dsimp only [List.cons_append, List.nil_append]; walk1) | (leave1; walk_say "STEP leave1"; try dsimp only) | fail "no step")))
    rename Fr _ _ _ _ => F7
    rename News _ _ _ _ => N7
    refine' fl_end ((c * (n - (0 + (i : Int)))).fdiv (0 + (i : Int) + 1), ?tok2) F7 N7 (fun _ (h9 : _ ∈ _) => h9) (fun p hp => Nat.ne_of_lt (hI p hp)) ?ga ?gb ?gc
    case gb => ksw_same
    case ga => exact List.forall_mem_cons.mpr ⟨by rfl, List.forall_mem_nil _⟩
    case gc =>
      dsimp only
      rw [hP, Int.zero_add]
      rfl
  case g4 =>
    rintro ⟨c, tc⟩ u h tk hP F6 N6
    dsimp only [kstB] at F6 N6 hP
    subst hP
    try k_fold
    (repeat' ((fail_if_success (with_reducible show wpAny _ _ (exec (Stmt.While _ _ _ _) _) _ _ _)); (fail_if_success (with_reducible show wpAny _ _ (exec (Stmt.For _ _ _ _ _) _) _ _ _)); (fail_if_success (with_reducible show wpAny _ _ (pyIter _) _ _ _)); (fail_if_success (with_reducible show wpAny _ _ (call (Value.builtin "str.split") _) _ _ _)); (fail_if_success (with_reducible show KswEnd _ _ _ _ _ _ _ _ _ _ _ _)); (fail_if_success (with_reducible show FlEnd _ _ _ _ _ _ _ _ _ _ _)); (first | (k_unfold; (try dsimp only)) | (k_end; wrow_close) | walk1 | (dsimp only; walk1) | (dsimp only [List.cons_append, List.nil_append]; walk1) | (leave1; walk_say "STEP leave1"; try dsimp only) | fail "no step")))
    exact hret _ _ _ _ ⟨⟨tc, rfl⟩, rfl⟩ (by assumption) (by assumption)

theorem chW_bound0 : ∀ a : Fin 21, ∀ i : Fin 11, -1000000 < chW ((a.val : Int) - 1) i.val ∧ chW ((a.val : Int) - 1) i.val < 1000000 := by decide +kernel
theorem chW_bound {a : Int} (h1 : -2 < a) (h2 : a < 20) {i : Nat} (hi : i ≤ 10) : -1000000 < chW a i ∧ chW a i < 1000000 := by
  have := chW_bound0 ⟨(a + 1).toNat, by omega⟩ ⟨i, by omega⟩
  dsimp only at this
  rw [show (((a + 1).toNat : Nat) : Int) - 1 = a from by omega] at this
  exact this
end
section
def IsI (w : World) (o : Obj) (kv : List (Int × Int)) : Prop := ∃ kvs, o.IsDictOf (intKind PySem.Challenge.rw_pg0125_01.row.prog w) kvs ∧ PyProof.V.FlatPairs PyData.int kvs (encI kv)
theorem encI_put (kv : List (Int × Int)) (k : Int) (v : Int) : PyProof.V.putD (PyData.int k) (PyData.int v) (encI kv) = encI (putKV kv k v) := by
  unfold PyProof.V.putD putKV encI
  have e1 : (kv.map fun p => (PyData.int p.1, PyData.int p.2)).any (fun p => PySem.Spec.same p.1 (PyData.int k)) = kv.any (fun p => decide (p.1 = k)) := by
    rw [List.any_map]
    rfl
  rw [e1]
  split
  · rw [List.map_map, List.map_map]
    congr 1
    funext p
    show (if PySem.Spec.same (PyData.int p.1) (PyData.int k) = true then _ else _) = _
    rw [PyProof.V.same_int]
    by_cases h : p.1 = k <;> simp [h]
  · simp
theorem encI_lookup (kv : List (Int × Int)) (k : Int) : PySem.Spec.lookup (PyData.int k) (encI kv) = (getKV kv k).map PyData.int := by
  induction kv with
  | nil => rfl
  | cons p r ih =>
    obtain ⟨a, b⟩ := p
    show (if PySem.Spec.same (PyData.int a) (PyData.int k) = true then some (PyData.int b) else PySem.Spec.lookup (PyData.int k) (encI r)) = _
    rw [PyProof.V.same_int, ih]
    by_cases h : a = k
    · simp [getKV, h]
    · simp [getKV, h]
section
variable {w : World} {A : Around} {E : Value → Shared → Prop} {s : Shared} {h₀ : Heap} {L d : Addr} {m : Str → Option Value} {news : Led} {g : Obj → Led} {o : Obj} {kv : List (Int × Int)}
theorem setI {k : Int} {v : Int} {t u : Tok} {Q : Unit → Shared → Prop} (F : Fr h₀ L s.heap m) (N : News h₀ L s.heap news) (U : UpdF d o news g) (D : IsI w o kv) (hz : kv.length < 1000)
    (h : ∀ h' o', Fr h₀ L h' m → News h₀ L h' (g o') → IsI w o' (putKV kv k v) → Q () { s with heap := h', toks := s.toks + 1 }) :
    wpAny (model PySem.Challenge.rw_pg0125_01.row.prog w) A (setItem (.ref d) (.int k t) (.int v u)) Q E s := by
  obtain ⟨kvs, hd, hf⟩ := D
  refine setItem_K PyProof.V.same_int (intKind_is _ _ _ _) (PyProof.V.Flat.int v u) F N U hd hf (fun h' o' F' N' hd' hf' => h h' o' F' N' ⟨_, hd', ?_⟩) ?_
  · rw [encI_put] at hf'; exact hf'
  · unfold encI; rw [List.length_map, sizeLine_eq]; omega
theorem tabI (N : News h₀ L s.heap news) (hm : (d, o) ∈ news) (lo : (d == sysModules) = false) (D : IsI w o kv) : TabAt (intKind PySem.Challenge.rw_pg0125_01.row.prog w) PyData.int s.heap d (encI kv) := by
  obtain ⟨kvs, hd, hf⟩ := D
  exact TabAt.ofNews N hm lo hd hf
end
def dueStep (n ones twos : Int) (acc : List (Int × Int)) (i : Int) : List (Int × Int) :=
  if 0 < chW (ones - 1 + (n - i - twos)) (n - i - twos).toNat * chW (twos - 1 + (i - ones)) (i - ones).toNat then putKV acc i (chW (ones - 1 + (n - i - twos)) (n - i - twos).toNat * chW (twos - 1 + (i - ones)) (i - ones).toNat) else acc
def dueL (n ones twos : Int) : Nat → List (Int × Int)
  | 0 => []
  | i + 1 => dueStep n ones twos (dueL n ones twos i) (ones + (i : Int))
theorem dueL_length (n ones twos : Int) : ∀ i, (dueL n ones twos i).length ≤ i
  | 0 => Nat.le_refl _
  | i + 1 => by
    have h := dueL_length n ones twos i
    unfold dueL dueStep
    split
    · have := putKV_length (dueL n ones twos i) (ones + (i : Int)) (chW (ones - 1 + (n - (ones + (i : Int)) - twos)) (n - (ones + (i : Int)) - twos).toNat * chW (twos - 1 + (ones + (i : Int) - ones)) (ones + (i : Int) - ones).toNat)
      omega
    · omega
local macro_rules | `(tactic| walk_at "setItem ref int") => `(tactic| (k_here; (with_reducible show wpAny _ _ (setItem (Value.ref _) (Value.int _ _) (Value.int _ _)) _ _ _); k_dflt (refine' setI ?k1 ?k2 ?k3 ?k4 ?k5 ?_; (case k1 => k_asm); (case k2 => k_asm); (case k3 => k_updF); (case k4 => k_asm); (case k5 => omega)); intro h' o' F' N' D'; (try dsimp only at N'); (try k_sweep)))
theorem due_spec (w : World) (n ones twos : Int) (tn t1 t2 : Tok) (news : Led) (hn0 : 0 ≤ n) (hn1 : n < 10) (ho0 : 0 ≤ ones) (ho1 : ones < 10) (ht0 : 0 ≤ twos) (ht1 : twos < 10) :
    CallSpec w 96 [.int n tn, .int ones t1, .int twos t2] news 2 16 (fun r news' => ∃ d o, r = .ref d ∧ news' = (d, o) :: news ∧ (∀ p ∈ news, p.1 < d) ∧ (d == sysModules) = false ∧ IsI w o (dueL n ones twos (n - twos + 1 - ones).toNat)) := by
  w_top off
  unfold CallSpec
  k_fill
  intro mean mg mb dp un gd cn cs a ccd cl outer A₀ base h₀ L m s Q E B F X N T hk hd hu hret
  refine wpAny_call ?_
  k_dflt ktr_enter
  (repeat' ((fail_if_success (with_reducible show wpAny _ _ (exec (Stmt.While _ _ _ _) _) _ _ _)); (fail_if_success (with_reducible show wpAny _ _ (exec (Stmt.For _ _ _ _ _) _) _ _ _)); (fail_if_success (with_reducible show wpAny _ _ (pyIter _) _ _ _)); (fail_if_success (with_reducible show wpAny _ _ (call (Value.ref 77) _) _ _ _)); (fail_if_success (with_reducible show wpAny _ _ (call (Value.builtin "str.split") _) _ _ _)); (fail_if_success (with_reducible show KswEnd _ _ _ _ _ _ _ _ _ _ _ _)); (fail_if_success (with_reducible show FlEnd _ _ _ _ _ _ _ _ _ _ _)); (first | (k_unfold; (try dsimp only)) | (k_end; wrow_close) | walk1 | (dsimp only; walk1) | (dsimp only [List.cons_append, List.nil_append]; walk1) | (leave1; walk_say "STEP leave1"; try dsimp only) | fail "no step")))
  rename (∀ p ∈ news, p.1 < _) => hlt
  rename ((_ == sysModules) = false) => lo3
  rename Obj.IsDictOf (intKind _ _) _ _ => hi9
  rename Obj.IsDictOf (strKind _ _) _ _ => hs9
  rename Fr _ _ _ _ => F1
  rename News _ _ _ _ => N1
  rename Obj => o3
  have D3 : IsI w o3 [] := ⟨[], hi9, PyProof.V.FlatPairs.nil⟩
  clear hi9 hs9
  rename Addr => d3
  have hne : ∀ p ∈ news, p.1 ≠ d3 := fun p hp => Nat.ne_of_lt (hlt p hp)
  refine For_invVF F1 rfl rfl ?_
  (repeat' ((fail_if_success (with_reducible show wpAny _ _ (exec (Stmt.While _ _ _ _) _) _ _ _)); (fail_if_success (with_reducible show wpAny _ _ (exec (Stmt.For _ _ _ _ _) _) _ _ _)); (fail_if_success (with_reducible show wpAny _ _ (pyIter _) _ _ _)); (fail_if_success (with_reducible show wpAny _ _ (call (Value.ref 77) _) _ _ _)); (fail_if_success (with_reducible show wpAny _ _ (call (Value.builtin "str.split") _) _ _ _)); (fail_if_success (with_reducible show KswEnd _ _ _ _ _ _ _ _ _ _ _ _)); (fail_if_success (with_reducible show FlEnd _ _ _ _ _ _ _ _ _ _ _)); (first | (k_unfold; (try dsimp only)) | (k_end; wrow_close) | walk1 | (dsimp only; walk1) | (dsimp only [List.cons_append, List.nil_append]; walk1) | (leave1; walk_say "STEP leave1"; try dsimp only) | fail "no step")))
  rename IsRange _ _ _ _ _ _ _ _ => hR
  rename Fr _ _ _ _ => F2
  rename News _ _ _ _ => N2
  refine' fl_range (σ := Obj) (n := (n - twos + 1 - ones).toNat) (fun c => (d3, c) :: news) (fun c => []) [Str.ofString "i", Str.ofString "more", Str.ofString "rest", Str.ofString "ways"] (fun i c => IsI w c (dueL n ones twos i)) o3 rfl hR (range_small (by omega) (by omega) (by omega) (by omega)) (range_size _ _) F2 N2 (List.forall_mem_nil _) D3 ?g3 ?g4
  case g3 =>
    rintro I it i c u t h tk hI hi hP F6 N6
    dsimp only [kstB] at F6 N6
    have hI3 := ltN (hI _ List.mem_cons_self)
    dsimp only at hI3
    have hdl := dueL_length n ones twos i
    have hc1 : ∀ j, j ≤ (n - (ones + (i : Int)) - twos).toNat → -1000000 < chW (ones - 1 + (n - (ones + (i : Int)) - twos)) j ∧ chW (ones - 1 + (n - (ones + (i : Int)) - twos)) j < 1000000 := fun j hj => chW_bound (by omega) (by omega) (by omega)
    have hc2 : ∀ j, j ≤ (ones + (i : Int) - ones).toNat → -1000000 < chW (twos - 1 + (ones + (i : Int) - ones)) j ∧ chW (twos - 1 + (ones + (i : Int) - ones)) j < 1000000 := fun j hj => chW_bound (by omega) (by omega) (by omega)
    have hc1' := hc1 _ (Nat.le_refl _)
    have hc2' := hc2 _ (Nat.le_refl _)
    try k_fold
    (repeat' ((fail_if_success (with_reducible show wpAny _ _ (exec (Stmt.While _ _ _ _) _) _ _ _)); (fail_if_success (with_reducible show wpAny _ _ (exec (Stmt.For _ _ _ _ _) _) _ _ _)); (fail_if_success (with_reducible show wpAny _ _ (pyIter _) _ _ _)); (fail_if_success (with_reducible show wpAny _ _ (call (Value.ref 77) _) _ _ _)); (fail_if_success (with_reducible show wpAny _ _ (call (Value.builtin "str.split") _) _ _ _)); (fail_if_success (with_reducible show KswEnd _ _ _ _ _ _ _ _ _ _ _ _)); (fail_if_success (with_reducible show FlEnd _ _ _ _ _ _ _ _ _ _ _)); (first | (k_unfold; (try dsimp only)) | (k_end; wrow_close) | walk1 | (dsimp only; walk1) | (dsimp only [List.cons_append, List.nil_append]; walk1) | (leave1; walk_say "STEP leave1"; try dsimp only) | fail "no step")))
    rename News _ _ _ _ => N7
    replace N7 := kti_tail N7
    k_dflt (refine' spec_use (ch_spec w _ _ _ _ _ (by omega) (by omega) (by omega) (by omega) hc1) ?k1 ?k2 ?k3 N7 ?k5 ?k6 ?k7 ?k8 ?_)
    (case k1 => k_asm); (case k2 => k_asm); (case k3 => k_asm); (case k5 => k_asm); (case k6 => exact rfl); (case k7 => ktr_room); (case k8 => ktr_units)
    rintro r' news' h' tk' ⟨⟨tr, rfl⟩, rfl⟩ F8 N8
    (repeat' ((fail_if_success (with_reducible show wpAny _ _ (exec (Stmt.While _ _ _ _) _) _ _ _)); (fail_if_success (with_reducible show wpAny _ _ (exec (Stmt.For _ _ _ _ _) _) _ _ _)); (fail_if_success (with_reducible show wpAny _ _ (pyIter _) _ _ _)); (fail_if_success (with_reducible show wpAny _ _ (call (Value.ref 77) _) _ _ _)); (fail_if_success (with_reducible show wpAny _ _ (call (Value.builtin "str.split") _) _ _ _)); (fail_if_success (with_reducible show KswEnd _ _ _ _ _ _ _ _ _ _ _ _)); (fail_if_success (with_reducible show FlEnd _ _ _ _ _ _ _ _ _ _ _)); (first | (k_unfold; (try dsimp only)) | (k_end; wrow_close) | walk1 | (dsimp only; walk1) | (dsimp only [List.cons_append, List.nil_append]; walk1) | (leave1; walk_say "STEP leave1"; try dsimp only) | fail "no step")))
    k_dflt (refine' spec_use (ch_spec w _ _ _ _ _ (by omega) (by omega) (by omega) (by omega) hc2) ?k1 ?k2 ?k3 ?k4 ?k5 ?k6 ?k7 ?k8 ?_)
    (case k4 => k_asm)
    (case k1 => k_asm); (case k2 => k_asm); (case k3 => k_asm); (case k5 => k_asm); (case k6 => exact rfl); (case k7 => ktr_room); (case k8 => ktr_units)
    rintro r' news' h' tk' ⟨⟨tr2, rfl⟩, rfl⟩ F9 N9
    (repeat' ((fail_if_success (with_reducible show wpAny _ _ (exec (Stmt.While _ _ _ _) _) _ _ _)); (fail_if_success (with_reducible show wpAny _ _ (exec (Stmt.For _ _ _ _ _) _) _ _ _)); (fail_if_success (with_reducible show wpAny _ _ (pyIter _) _ _ _)); (fail_if_success (with_reducible show wpAny _ _ (call (Value.ref 77) _) _ _ _)); (fail_if_success (with_reducible show wpAny _ _ (call (Value.builtin "str.split") _) _ _ _)); (fail_if_success (with_reducible show KswEnd _ _ _ _ _ _ _ _ _ _ _ _)); (fail_if_success (with_reducible show FlEnd _ _ _ _ _ _ _ _ _ _ _)); (first | (k_unfold; (try dsimp only)) | (k_end; wrow_close) | walk1 | (dsimp only; walk1) | (dsimp only [List.cons_append, List.nil_append]; walk1) | (leave1; walk_say "STEP leave1"; try dsimp only) | fail "no step")))
    · rename IsI w _ (putKV _ _ _) => D7
      rename (0 < chW _ _ * chW _ _) => hpos
      rename Fr _ _ _ _ => F10
      rename News _ _ _ _ => N10
      refine fl_end _ F10 N10 (fun _ (h9 : _ ∈ _) => h9) (List.forall_mem_cons.mpr ⟨Nat.ne_of_lt hI3, fun p hp => Nat.ne_of_lt (hI p (List.mem_cons_of_mem _ hp))⟩) (List.forall_mem_nil _) (by ksw_same) ?_
      unfold dueL dueStep
      rw [if_pos hpos]
      exact D7
    · rename (¬ (0 < chW _ _ * chW _ _)) => hpos
      rename Fr _ _ _ _ => F10
      rename News _ _ _ _ => N10
      refine fl_end c F10 N10 (fun _ (h9 : _ ∈ _) => h9) (List.forall_mem_cons.mpr ⟨Nat.ne_of_lt hI3, fun p hp => Nat.ne_of_lt (hI p (List.mem_cons_of_mem _ hp))⟩) (List.forall_mem_nil _) (by ksw_same) ?_
      unfold dueL dueStep
      rw [if_neg hpos]
      exact hP
  case g4 =>
    rintro c u h tk hP F6 N6
    dsimp only [kstB] at F6 N6
    try k_fold
    (repeat' ((fail_if_success (with_reducible show wpAny _ _ (exec (Stmt.While _ _ _ _) _) _ _ _)); (fail_if_success (with_reducible show wpAny _ _ (exec (Stmt.For _ _ _ _ _) _) _ _ _)); (fail_if_success (with_reducible show wpAny _ _ (pyIter _) _ _ _)); (fail_if_success (with_reducible show wpAny _ _ (call (Value.ref 77) _) _ _ _)); (fail_if_success (with_reducible show wpAny _ _ (call (Value.builtin "str.split") _) _ _ _)); (fail_if_success (with_reducible show KswEnd _ _ _ _ _ _ _ _ _ _ _ _)); (fail_if_success (with_reducible show FlEnd _ _ _ _ _ _ _ _ _ _ _)); (first | (k_unfold; (try dsimp only)) | (k_end; wrow_close) | walk1 | (dsimp only; walk1) | (dsimp only [List.cons_append, List.nil_append]; walk1) | (leave1; walk_say "STEP leave1"; try dsimp only) | fail "no step")))
    exact hret _ _ _ _ ⟨d3, c, rfl, rfl, hlt, lo3, hP⟩ (by assumption) (by assumption)
end
section
variable {prog : Program} {w : World} {A : Around} {E : Value → Shared → Prop} {s : Shared} {h₀ : Heap} {L : Addr} {m : Str → Option Value} {env : Env} {R : Result → Shared → Prop}

/-- one loop of a comprehension: its turn is told by hT -/
theorem comp_loop {e : PySem.Expr} {depth : Nat} {x : Str} {px p : Pos} {it acc : Value} {body : Sem Unit}
    (hden : (model prog w).den (.compLoop e depth it acc env) = (compTurn e depth it acc env).onRaise (fun x => do noteFrame x env; theTreesLotGoes x))
    (hun : A.under (.compLoop e depth it acc env) = A)
    (hT : compTurn e depth it acc env = (standAt p >>= fun _ => pyNext it >>= fun r => match r with
      | none => pure (.done .next)
      | some v => letOwnedTupleGo (.Name x px) it v >>= fun _ => assign (.Name x px) env v >>= fun _ => body >>= fun _ => again (.compLoop e depth it acc env)))
    (I : Nat → Shared → Prop)
    (turn : ∀ n s, I n s → wpAny (model prog w) A (pyNext it) (fun r s₁ => match r with
      | none => R (.ok .next) s₁
      | some v => wpAny (model prog w) A (assign (.Name x px) env v) (fun _ s₂ => wpAny (model prog w) A body (fun _ s₃ => ∃ m, m < n ∧ I m s₃) (notedBy (model prog w) A env fun e s' => R (.error e) s') s₂)
          (notedBy (model prog w) A env fun e s' => R (.error e) s') s₁) (notedBy (model prog w) A env fun e s' => R (.error e) s') s)
    (n : Nat) (h : I n s) : codeAny (model prog w) A (.compLoop e depth it acc env) R s := by
  refine codeAny_loop rfl I (fun n s hI => ?_) n h
  rw [hun, hden]
  refine wpAny_noted ?_
  rw [hT]
  refine wpAny_bind (wpAny_standAt (wpAny_bind (wpAny_mono (turn n s hI) (fun r s₁ h₁ => ?_) fun _ _ h' => h')))
  cases r with
  | none => exact wpAny_pure h₁
  | some v =>
    refine wpAny_bind (wpAny_of_eq (show letOwnedTupleGo (.Name x px) it v = pure () from rfl) ?_)
    exact wpAny_bind (wpAny_mono h₁ (fun _ s₂ h₂ => wpAny_bind (wpAny_mono h₂ (fun _ s₃ h₃ => wpAny_pure ⟨rfl, h₃⟩) fun _ _ h' => h')) fun _ _ h' => h')

open PyProof.Rows.LCg in
theorem comp_walk {σ : Type} {e : PySem.Expr} {depth : Nat} {x : Str} {px p : Pos} {acc : Value} {body : Sem Unit} {I C : Addr} {fp : List Addr} {n : Nat} {P : Nat → Value → Prop} {St : Nat → Heap → Prop}
    (hden : (model prog w).den (.compLoop e depth (.ref I) acc env) = (compTurn e depth (.ref I) acc env).onRaise (fun x => do noteFrame x env; theTreesLotGoes x))
    (hun : A.under (.compLoop e depth (.ref I) acc env) = A)
    (hT : compTurn e depth (.ref I) acc env = (standAt p >>= fun _ => pyNext (.ref I) >>= fun r => match r with
      | none => pure (.done .next)
      | some v => letOwnedTupleGo (.Name x px) (.ref I) v >>= fun _ => assign (.Name x px) env v >>= fun _ => body >>= fun _ => again (.compLoop e depth (.ref I) acc env)))
    (W : Walks prog w A I fp [I] n P St) (Ld : σ → Led) (PP : Nat → σ → Prop) (KM : (Str → Option Value) → Prop) (c₀ : σ) {m₂ : Str → Option Value}
    (hIo : ∀ i h, St i h → ∃ o, h.get? I = some o)
    (hSt : ∀ i c h h' o, St i h → h.get? I = some o → h'.get? I = some o → News h₀ L h' (Ld c) → (∀ b o, h₀.get? b = some o → h'.get? b = some o) → St i h')
    (hCf : C ∉ fp) (hIL : L ≠ I) (hI₀ : h₀.get? I = none) (hCL : C ≠ L) (hC₀ : h₀.get? C = none) (hIC : I ≠ C) (hoff : ∀ c, ∀ p ∈ Ld c, p.1 ≠ I ∧ p.1 ≠ C)
    (hKM : ∀ f v, KM f → KM (fun y => if y = x then some v else f y)) (hloc : env.locals = C) (hx : env.kindOf x = some .local) (hcls : (env.scope.kind == .class || (env.scope.kind == .module && env.locals != env.globals)) = false)
    (hst : St 0 s.heap) (F : Fr h₀ L s.heap m) (hns : s.heap.Ns C m₂) (hkm : KM m₂) (N : News h₀ L s.heap (Ld c₀)) (hp : PP 0 c₀)
    (bodyOk : ∀ i v c oI oC m₂ h tk (E' : Value → Shared → Prop), i < n → P i v → PP i c → NsObj oC m₂ → m₂ x = some v → KM m₂ → Fr h₀ L h m → News h₀ L h ((I, oI) :: (C, oC) :: Ld c) →
      wpAny (model prog w) A body (fun _ s₃ => ∃ c' oC' m₂' h' tk', s₃ = { s with heap := h', toks := tk' } ∧ Fr h₀ L h' m ∧ News h₀ L h' ((I, oI) :: (C, oC') :: Ld c') ∧ NsObj oC' m₂' ∧ KM m₂' ∧ PP (i + 1) c') E' { s with heap := h, toks := tk })
    (fin : ∀ c oC m₂ h tk, PP n c → NsObj oC m₂ → KM m₂ → Fr h₀ L h m → News h₀ L h ((C, oC) :: Ld c) → R (.ok .next) { s with heap := h, toks := tk }) :
    codeAny (model prog w) A (.compLoop e depth (.ref I) acc env) R s := by
  refine comp_loop hden hun hT (fun k s' => ∃ h' tk i c f, s' = { s with heap := h', toks := tk } ∧ i ≤ n ∧ k = n + 1 - i ∧ St i h' ∧ Fr h₀ L h' m ∧ h'.Ns C f ∧ KM f ∧ News h₀ L h' (Ld c) ∧ PP i c) ?_ (n + 1)
    ⟨s.heap, s.toks, 0, c₀, m₂, rfl, Nat.zero_le _, rfl, hst, F, hns, hkm, N, hp⟩
  rintro k s' ⟨h', tk, i, c, f, rfl, hi, rfl, hst', F', hns', hkm', N', hp'⟩
  by_cases hlt : i < n
  · refine W.item i _ _ _ hlt hst' fun v h₂ tk₂ hPv hst₂ hk₂ => ?_
    have hns₂ : h₂.Ns C f := hns'.at' fun o e => hk₂ _ o (by simpa using Ne.symm hIC) e
    subst hloc
    refine wpAny_assign_Name (wpAny_storeName_local hx hns₂ (fun h₃ hn₃ hs₃ => ?_) hcls)
    have hst₃ : St (i + 1) h₃ := W.frame _ _ _ hst₂ fun b hb o e => hs₃.extBut b o (fun q => hCf (q ▸ hb)) e
    obtain ⟨oI, heI⟩ := hIo _ _ hst₃
    obtain ⟨oC, heC, hoC⟩ := ns_obj hn₃
    have F₃ : Fr h₀ L h₃ m := (fr_but F' hk₂ hIL hI₀).change hs₃ hCL hC₀
    have N₂ : News h₀ L h₂ (Ld c) := news_but N' hk₂ fun p hp => (hoff c p hp).1
    have N₃ : News h₀ L h₃ ((I, oI) :: (env.locals, oC) :: Ld c) := fun p hp => by
      rcases List.mem_cons.mp hp with rfl | hp
      · exact ⟨heI, Ne.symm hIL, hI₀⟩
      · rcases List.mem_cons.mp hp with rfl | hp
        · exact ⟨heC, hCL, hC₀⟩
        · have z := N₂ p hp
          exact ⟨hs₃.extBut _ _ (hoff c p hp).2 z.1, z.2⟩
    refine wpAny_mono (bodyOk i v c oI oC _ h₃ _ _ hlt hPv hp' hoC (by simp) (hKM _ _ hkm') F₃ N₃) (fun _ s₄ h₄ => ?_) fun _ _ e => e
    obtain ⟨c', oC', m₂', h₄, tk₄, rfl, F₄, N₄, hoC', hkm₄, hp₄⟩ := h₄
    have N₄' : News h₀ L h₄ (Ld c') := fun p hp => N₄ p (List.mem_cons_of_mem _ (List.mem_cons_of_mem _ hp))
    exact ⟨n + 1 - (i + 1), by omega, h₄, tk₄, i + 1, c', m₂', rfl, hlt, rfl, hSt _ c' _ _ _ hst₃ heI (N₄ _ List.mem_cons_self).1 N₄' F₄.keep, F₄, hoC'.ns (N₄ _ (List.mem_cons_of_mem _ List.mem_cons_self)).1, hkm₄, N₄', hp₄⟩
  · obtain rfl : i = n := Nat.le_antisymm hi (Nat.not_lt.mp hlt)
    refine W.done _ _ _ hst' fun h₂ tk₂ hk₂ => ?_
    have hns₂ : h₂.Ns C f := hns'.at' fun o e => hk₂ _ o (by simpa using Ne.symm hIC) e
    obtain ⟨oC, heC, hoC⟩ := ns_obj hns₂
    refine fin c oC f h₂ tk₂ hp' hoC hkm' (fr_but F' hk₂ hIL hI₀) fun p hp => ?_
    rcases List.mem_cons.mp hp with rfl | hp
    · exact ⟨heC, hCL, hC₀⟩
    · exact news_but N' hk₂ (fun p hp => (hoff c p hp).1) p hp
end
section
variable {prog : Program} {w : World} {A : Around} {E : Value → Shared → Prop} {s : Shared} {h₀ : Heap} {L : Addr} {m : Str → Option Value} {env : Env} {R : Result → Shared → Prop}

theorem turn_list0' (elt t0 i0 t1 i1 : PySem.Expr) (scope : Scope) (pos : Pos) (it acc : Value) (env : Env) :
    compTurn (.ListComp elt [⟨t0, i0, [], 0⟩, ⟨t1, i1, [], 0⟩] scope pos) 0 it acc env = (standAt i0.pos >>= fun _ => pyNext it >>= fun r => match r with
      | none => pure (.done .next)
      | some v => letOwnedTupleGo t0 it v >>= fun _ => assign t0 env v >>= fun _ =>
        (eval i1 env >>= fun x => standAt i1.pos >>= fun _ => foldedSetIterable i1 env x >>= fun x => holding [x] (pyIter x) >>= fun it1 => runOwn (.compStart (.ListComp elt [⟨t0, i0, [], 0⟩, ⟨t1, i1, [], 0⟩] scope pos) 1 it1 acc env) env >>= fun _ => 
          again (.compLoop (.ListComp elt [⟨t0, i0, [], 0⟩, ⟨t1, i1, [], 0⟩] scope pos) 0 it acc env))) := by rfl
theorem turn_list0 (elt t0 i0 t1 i1 : PySem.Expr) (scope : Scope) (pos : Pos) (it acc : Value) (env : Env) :
    compTurn (.ListComp elt [⟨t0, i0, [], 0⟩, ⟨t1, i1, [], 0⟩] scope pos) 0 it acc env = (standAt i0.pos >>= fun _ => pyNext it >>= fun r => match r with
      | none => pure (.done .next)
      | some v => letOwnedTupleGo t0 it v >>= fun _ => assign t0 env v >>= fun _ =>
        (eval i1 env >>= fun x => standAt i1.pos >>= fun _ => foldedSetIterable i1 env x >>= fun x => holding [x] (pyIter x) >>= fun it1 => runOwn (.compStart (.ListComp elt [⟨t0, i0, [], 0⟩, ⟨t1, i1, [], 0⟩] scope pos) 1 it1 acc env) env >>= fun _ => pure ()) >>= fun _ =>
          again (.compLoop (.ListComp elt [⟨t0, i0, [], 0⟩, ⟨t1, i1, [], 0⟩] scope pos) 0 it acc env)) := by
  rw [turn_list0']
  congr 1; funext _; congr 1; funext r
  cases r with
  | none => rfl
  | some v =>
    have A : ∀ {α β γ : Type} (m : Sem α) (f : α → Sem β) (g : β → Sem γ), (m >>= f) >>= g = m >>= fun a => f a >>= g := fun m f g => Sem.bind_assoc m f g
    have P : ∀ {α β : Type} (a : α) (f : α → Sem β), ((pure a : Sem α) >>= f) = f a := fun _ _ => rfl
    simp only [A, P]
theorem turn_list1 (elt t0 i0 t1 i1 : PySem.Expr) (scope : Scope) (pos : Pos) (it acc : Value) (env : Env) :
    compTurn (.ListComp elt [⟨t0, i0, [], 0⟩, ⟨t1, i1, [], 0⟩] scope pos) 1 it acc env = (standAt i1.pos >>= fun _ => pyNext it >>= fun r => match r with
      | none => pure (.done .next)
      | some v => letOwnedTupleGo t1 it v >>= fun _ => assign t1 env v >>= fun _ =>
        (eval elt env >>= fun x => call (.builtin "list.append") [acc, x] >>= fun _ => pure ()) >>= fun _ =>
          again (.compLoop (.ListComp elt [⟨t0, i0, [], 0⟩, ⟨t1, i1, [], 0⟩] scope pos) 1 it acc env)) := by rfl
theorem turn_dict (ke ve t0 i0 : PySem.Expr) (scope : Scope) (pos : Pos) (it : Value) (d : Addr) (env : Env) :
    compTurn (.DictComp ke ve [⟨t0, i0, [], 0⟩] scope pos) 0 it (.ref d) env = (standAt i0.pos >>= fun _ => pyNext it >>= fun r => match r with
      | none => pure (.done .next)
      | some v => letOwnedTupleGo t0 it v >>= fun _ => assign t0 env v >>= fun _ =>
        (eval ke env >>= fun kv => holding [kv] (eval ve env) >>= fun vv => standAt { ke.pos with endLine := ve.pos.endLine, endCol := ve.pos.endCol } >>= fun _ => holding [kv, vv] (dictSet d kv vv)) >>= fun _ =>
          again (.compLoop (.DictComp ke ve [⟨t0, i0, [], 0⟩] scope pos) 0 it (.ref d) env)) := by rfl

/-- the second clause of a list comprehension begins: either its loop at once, or behind the making of its iterator -/
theorem start_list1 {elt t0 i0 t1 i1 : PySem.Expr} {scope : Scope} {pos : Pos} {it acc : Value}
    (h0 : codeAny (model prog w) A (.compLoop (.ListComp elt [⟨t0, i0, [], 0⟩, ⟨t1, i1, [], 0⟩] scope pos) 1 it acc env) R s)
    (h : wpAny (model prog w) A (pyIter it) (fun it' s' => codeAny (model prog w) A (.compLoop (.ListComp elt [⟨t0, i0, [], 0⟩, ⟨t1, i1, [], 0⟩] scope pos) 1 it' acc env) R s')
      (notedBy (model prog w) A env fun x s' => R (.error x) s') s) :
    codeAny (model prog w) A (.compStart (.ListComp elt [⟨t0, i0, [], 0⟩, ⟨t1, i1, [], 0⟩] scope pos) 1 it acc env) R s := by
  generalize hc : PySem.Expr.ListComp elt [⟨t0, i0, [], 0⟩, ⟨t1, i1, [], 0⟩] scope pos = c at h0 h
  apply codeAny_of_tree
  subst hc
  show wpAny _ _ (Sem.onRaise _ (fun x => do noteFrame x env; standAt theWindowsPlace)) _ _ s
  apply wpAny_notedAt
  delta compStart
  show wpAny _ _ (ask >>= _) _ _ s
  apply wpAny_bind
  apply wpAny_askSetting
  apply wpAny_ite
  split
  · exact wpAny_bind (wpAny_pure (wpAny_pure ⟨rfl, h0⟩))
  · apply wpAny_bind
    apply wpAny_rule
    show wpAny _ _ (standAt i1.pos >>= _) _ _ s
    apply wpAny_bind
    apply wpAny_standAt
    apply wpAny_bind
    exact wpAny_mono h (fun _ _ q => wpAny_pure ⟨rfl, q⟩) fun _ _ x => x

theorem comp_begin {e : PySem.Expr} {scope : Scope} {cl : List (Str × Addr)} {it : Value} {oA : Obj} {news : Led} {newAcc : Sem Value} {RR : Value → Addr → Result → Shared → Prop}
    (hnew : ∀ (Q : Value → Shared → Prop), Q (.ref s.heap.objs.size) { s with heap := s.heap.push oA } → wpAny (model prog w) A newAcc Q E s) (hfree : oA.isFreed = false)
    (hcell : ∀ y ∈ scope.names, y.2 ≠ .cell) (hkind : scope.kind = .function)
    (F : Fr h₀ L s.heap m) (N : News h₀ L s.heap news)
    (h : ∀ D C h tk, Fr h₀ L h m → News h₀ L h ((D, oA) :: news) → h.Ns C (fun _ => none) → (∀ b o, s.heap.get? b = some o → h.get? b = some o) → D = s.heap.objs.size → C = s.heap.objs.size + 1 → h₀.get? C = none → C ≠ L →
      codeAny (model prog w) A (.compStart e 0 it (.ref D) (compEnvC scope cl C env)) (RR (.ref D) C) { s with heap := h, toks := tk }) :
    wpAny (model prog w) A newAcc (fun acc s₃ => wpAny (model prog w) A (newFunctionEnv scope env.globals cl [] env.qual none .none (some env)) (fun cenv s₄ =>
      codeAny (model prog w) A (.compStart e 0 it acc { cenv with scope := relabel scope env }) (RR acc cenv.locals) s₄) E s₃) E s := by
  refine hnew _ (wpAny_newFunctionEnv hcell (by intro y hy; simp at hy) (fun h₁ hns₁ hsb₁ => ?_) hkind)
  dsimp only at hns₁ hsb₁ ⊢
  have hC : (s.heap.push oA).objs.size = s.heap.objs.size + 1 := Heap.size_push ..
  have old : ∀ b o, (s.heap.push oA).get? b = some o → h₁.get? b = some o := fun b o e => hsb₁.extBut b o (Nat.ne_of_lt (Heap.lt_size e)) (Heap.get?_push_of_some _ e)
  have fresh₀ : ∀ a, s.heap.objs.size ≤ a → h₀.get? a = none := fun a ha => by
    cases e : h₀.get? a with
    | none => rfl
    | some o' => exact absurd (Heap.lt_size (F.keep a o' e)) (Nat.not_lt.mpr ha)
  have F₁ : Fr h₀ L h₁ m := (F.push oA).keeps old
  have N₁ : News h₀ L h₁ ((s.heap.objs.size, oA) :: news) := (News.push F N oA hfree).grown old
  have hLlt : L < s.heap.objs.size := F.ns.lt
  exact h s.heap.objs.size (s.heap.push oA).objs.size h₁ _ F₁ N₁ hns₁ (fun b o e => old b o (Heap.get?_push_of_some _ e)) rfl hC (fresh₀ _ (by rw [hC]; exact Nat.le_succ _)) (by rw [hC]; exact Nat.ne_of_gt (Nat.lt_succ_of_lt hLlt))

open PyProof.Rows.LCg in
theorem comp_post {acc : Value} {C : Addr} {oC : Obj} {m₂ : Str → Option Value} {led : Led} {f : Flow} {Q : Value → Shared → Prop} (F : Fr h₀ L s.heap m) (N : News h₀ L s.heap ((C, oC) :: led)) (hoC : NsObj oC m₂) (hCL : C ≠ L) (hC₀ : h₀.get? C = none) (hoff : ∀ p ∈ led, p.1 ≠ C)
    (h : ∀ h', Fr h₀ L h' m → News h₀ L h' led → Q acc { s with heap := h' }) : compPost (model prog w) A E none Q acc C (.ok f) s :=
  ⟨m₂, hoC.ns (N _ List.mem_cons_self).1, fun h' hs => h h' (F.change hs hCL hC₀) fun p hp => ⟨hs.extBut _ _ (hoff p hp) (N p (List.mem_cons_of_mem _ hp)).1, (N p (List.mem_cons_of_mem _ hp)).2⟩⟩
open PyProof.Rows.LCg in
theorem comp_postA {D C : Addr} {oC : Obj} {m₂ : Str → Option Value} {led : Led} {f : Flow} {y : Str} {py : Pos} {Q : Value → Shared → Prop} (hL : env.locals = L) (F : Fr h₀ L s.heap m) (N : News h₀ L s.heap ((C, oC) :: led)) (hoC : NsObj oC m₂) (hCL : C ≠ L) (hC₀ : h₀.get? C = none) (hoff : ∀ p ∈ led, p.1 ≠ C)
    (hy : env.kindOf y = some .local) (hp : (env.scope.kind == .class || (env.scope.kind == .module && env.locals != env.globals)) = false)
    (h : ∀ h' tk, Fr h₀ L h' (fun z => if z = y then some (.ref D) else m z) → News h₀ L h' led → Q .none { s with heap := h', toks := tk }) : compPost (model prog w) A E (some (assign (.Name y py) env)) Q (.ref D) C (.ok f) s := by
  show wpAny _ A (assign (.Name y py) env (.ref D)) _ _ _
  subst hL
  refine wpAny_assign_Name (wpAny_storeName_local hy F.ns (fun h₂ hn₂ hs₂ => ?_) hp)
  have hL₀ : h₀.get? env.locals = none := Heap.get?_none_of_le F.above
  have F₂ : Fr h₀ env.locals h₂ (fun z => if z = y then some (.ref D) else m z) := ⟨hn₂, fun b o e => hs₂.extBut b o (fun q => by rw [q, hL₀] at e; cases e) (F.keep b o e), F.above⟩
  refine ⟨m₂, (hoC.ns (N _ List.mem_cons_self).1).sameBut hs₂ hCL, fun h'' hs'' => h h'' _ (F₂.change hs'' hCL hC₀) fun p hp => ?_⟩
  have z : h₂.get? p.1 = some p.2 := hs₂.extBut _ _ (N p (List.mem_cons_of_mem _ hp)).2.1 (N p (List.mem_cons_of_mem _ hp)).1
  exact ⟨hs''.extBut _ _ (hoff p hp) z, (N p (List.mem_cons_of_mem _ hp)).2⟩
end
section
variable {prog : Program} {w : World} {A : Around} {E : Value → Shared → Prop} {s : Shared} {env : Env} {h₀ : Heap} {y : Str} {py : Pos} {body : List Stmt} {Q : Flow → Shared → Prop}
theorem iter_strTurns {tx : Str} {t : Tok} {m₀ : Str → Option Value} {news : Led}
    (hh : A.handled = none) (ha : tx.cps.all (· < 128) = true) (F : Fr h₀ env.locals s.heap m₀) (N : News h₀ env.locals s.heap news)
    (rest₀ : ∀ I : Addr, (∀ p ∈ news, p.1 < I) → ItemsRest prog w A E h₀ env (.Name y py) body Q s [(I, "str_ascii_iterator")] [] (tx.cps.toList.map (fun c => Itm.tok (fun u => .str ⟨#[c]⟩ u))) m₀ news) :
    wpAny (model prog w) A (pyIter (.str tx t)) (fun it s₂ => TurnsAt prog w A h₀ env (.Name y py) body Q E it s₂) E s := by
  have hnew := next_is_new F
  refine wpAny_pyIter_ascii ha ?_
  refine ktu_core (tk0 := s.toks) (keep := []) (KTurns.ofWalks (Walks.strAscii hh s.heap.objs.size tx t) fun i v s Q E st q => by show wpAny _ _ (pure ()) _ _ _; exact wpAny_pure q) (by simp) ?_ ?_ ?_ (fun b hb => by simpa using hb) ?_ ?_ ?_ ?_ (F.push _) (fun p hp => ⟨Heap.get?_push_of_some _ (N p hp).1, (N p hp).2⟩) trivial (rest₀ _ fun p hp => Heap.lt_size (N p hp).1)
  · rintro i v h ⟨c, u, hc, rfl⟩
    exact ⟨.tok (fun u => .str ⟨#[c]⟩ u), by rw [List.getElem?_map, Array.getElem?_toList, hc]; rfl, ⟨u, rfl⟩⟩
  · rintro i h ⟨it, hit, hic, _⟩
    exact ⟨[(s.heap.objs.size, it)], ⟨⟨rfl, hic⟩, trivial⟩, fun p hp => by rw [List.mem_singleton.mp hp]; exact hit⟩
  · intro b hb
    have hb' : b = s.heap.objs.size := by simpa using hb
    rw [hb']
    exact ⟨List.mem_cons_self .., hnew⟩
  · intro b hb
    exact Or.inl (by simpa using hb)
  · intro hL
    have hL' : env.locals = s.heap.objs.size := by simpa using hL
    exact absurd F.ns.lt (by rw [hL']; exact Nat.lt_irrefl _)
  · intro p hp hI
    have hI' : p.1 = s.heap.objs.size := by simpa using hI
    exact absurd (Heap.lt_size (N p hp).1) (by rw [hI']; exact Nat.lt_irrefl _)
  · exact ⟨_, Heap.get?_push_size _ rfl, rfl, rfl⟩
end
section
variable {prog : Program} {w : World} {A : Around} {E : Value → Shared → Prop} {s : Shared} {h₀ : Heap} {L : Addr} {m : Str → Option Value} {env : Env} {R : Result → Shared → Prop}
def strRows (cnt : Str → Nat) (f : Str → Nat → Str) (rows : List Str) : List Str := rows.flatMap fun row => (List.range (cnt row)).map (f row)
theorem rowsStep (cnt : Str → Nat) (f : Str → Nat → Str) (rows : List Str) {i : Nat} {row : Str} (h : rows[i]? = some row) : strRows cnt f (rows.take (i + 1)) = strRows cnt f (rows.take i) ++ (List.range (cnt row)).map (f row) := by
  unfold strRows
  rw [List.take_add_one, List.flatMap_append, h]
  simp
theorem strRows_len (cnt : Str → Nat) (f : Str → Nat → Str) : ∀ (rows : List Str), (∀ r ∈ rows, cnt r ≤ 10) → (strRows cnt f rows).length ≤ 10 * rows.length
  | [], _ => by simp [strRows]
  | r :: rs, h => by
    have ih := strRows_len cnt f rs fun q hq => h q (List.mem_cons_of_mem _ hq)
    have h1 := h r List.mem_cons_self
    unfold strRows at ih ⊢
    rw [List.flatMap_cons, List.length_append, List.length_map, List.length_range, List.length_cons]
    omega
open PyProof.Rows.LCg in
theorem comp2_assign {elt i1 : PySem.Expr} {x0 x1 y z : Str} {p0 p1 py pz : Pos} {scope : Scope} {pos spos : Pos} {cl : List (Str × Addr)} {Q : Flow → Shared → Prop}
    {ax : Addr} {its : List ST} {n0 : Nat} {more : Led} (cnt : Str → Nat) (f : Str → Nat → Str) (hh : A.handled = none)
    (hsw : swapsWith (.ListComp elt [⟨.Name x0 p0, .Name z pz, [], 0⟩, ⟨.Name x1 p1, i1, [], 0⟩] scope pos) (some (.Name y py)) spos.line env = pure true)
    (hclos : closureFor scope env = pure cl) (hcell : ∀ z ∈ scope.names, z.2 ≠ .cell) (hkind : scope.kind = .function)
    (hnames : ∀ z ∈ scope.names, z.2 = .local → scope.names.lookup z.1 = some .local) (hx0 : scope.names.lookup x0 = some .local) (hx1 : scope.names.lookup x1 = some .local) (hx01 : x0 ≠ x1)
    (hy : env.kindOf y = some .local) (hp : (env.scope.kind == .class || (env.scope.kind == .module && env.locals != env.globals)) = false)
    (hf1 : ∀ C x, foldedSetIterable i1 (compEnvC scope cl C env) x = pure x)
    (F : Fr h₀ env.locals s.heap m) (N : News h₀ env.locals s.heap ((ax, listOf (strL its).toArray n0) :: more))
    (hz : its.length < 1000) (hc : ∀ p ∈ its, cnt p.1 ≤ 10)
    (hev : ∀ (Q : Value → Shared → Prop), Q (.ref ax) s → wpAny (model prog w) A (eval (.Name z pz) env) Q E s)
    (hrng : ∀ row t I oI C oC m₂ D oD h tk (Q : Value → Shared → Prop) (E : Value → Shared → Prop), (row, t) ∈ its → NsObj oC m₂ → m₂ x0 = some (.str row t) → Fr h₀ env.locals h m → News h₀ env.locals h ((I, oI) :: (C, oC) :: (D, oD) :: (ax, listOf (strL its).toArray n0) :: more) →
      (∀ r h' tk' ta tb tc, IsRange h' r 0 (cnt row : Int) 1 ta tb tc → Fr h₀ env.locals h' m → News h₀ env.locals h' ((I, oI) :: (C, oC) :: (D, oD) :: (ax, listOf (strL its).toArray n0) :: more) → Q (.ref r) { s with heap := h', toks := tk' }) →
      wpAny (model prog w) A (eval i1 (compEnvC scope cl C env)) Q E { s with heap := h, toks := tk })
    (helt : ∀ row t k u I2 oI2 C oC m₂ I oI D oD h tk (Q : Value → Shared → Prop) (E : Value → Shared → Prop), (row, t) ∈ its → k < cnt row → NsObj oC m₂ → m₂ x0 = some (.str row t) → m₂ x1 = some (.int (k : Int) u) → Fr h₀ env.locals h m → News h₀ env.locals h ((I2, oI2) :: (C, oC) :: (I, oI) :: (D, oD) :: (ax, listOf (strL its).toArray n0) :: more) →
      (∀ t' h' tk', Fr h₀ env.locals h' m → News h₀ env.locals h' ((I2, oI2) :: (C, oC) :: (I, oI) :: (D, oD) :: (ax, listOf (strL its).toArray n0) :: more) → Q (.str (f row k) t') { s with heap := h', toks := tk' }) →
      wpAny (model prog w) A (eval elt (compEnvC scope cl C env)) Q E { s with heap := h, toks := tk })
    (fin : ∀ D ts n h tk, ts.map (·.1) = strRows cnt f (its.map (·.1)) → Fr h₀ env.locals h (fun q => if q = y then some (.ref D) else m q) → News h₀ env.locals h ((D, listOf (strL ts).toArray n) :: (ax, listOf (strL its).toArray n0) :: more) → s.heap.objs.size ≤ D → Q .next { s with heap := h, toks := tk })
    (hs : ∀ x, foldedSetIterable (.Name z pz) env x = pure x := by intro _; rfl) :
    wpAny (model prog w) A (exec (.Assign [.Name y py] (.ListComp elt [⟨.Name x0 p0, .Name z pz, [], 0⟩, ⟨.Name x1 p1, i1, [], 0⟩] scope pos) spos) env) Q E s := by
  rw [exec_Assign_Name_used _ _ _ _ hsw]
  refine wpAny_bind (wpAny_standAt (wpAny_bind ?_))
  show wpAny _ A (do let _ ← comprehension (.ListComp elt [⟨.Name x0 p0, .Name z pz, [], 0⟩, ⟨.Name x1 p1, i1, [], 0⟩] scope pos) scope env _ (newList []) false (eval (.Name z pz) env) (some (assign (.Name y py) env))) _ _ s
  refine wpAny_bind (wpAny_mono (wpAny_comprehension_free (use := some (assign (.Name y py) env)) (Q := fun _ s' => Q .next s') rfl hs hclos hkind hnames
    (hev _ ?_)) (fun _ s' hq => wpAny_pure (wpAny_pure hq)) fun _ _ e => e)
  have hax := N _ List.mem_cons_self
  have hl : s.heap.IsList ax (strL its).toArray := ⟨_, hax.1, rfl, _, rfl⟩
  have hlt : ax < s.heap.objs.size := Heap.lt_size hax.1
  refine wpAny_pyIter_list hl ?_
  have up : ∀ b o, s.heap.get? b = some o → (s.heap.push { cls := .type "list_iterator", data := .fields #[.ref ax, .int 0 0] }).get? b = some o := fun b o e => Heap.get?_push_of_some _ e
  have hI₀ : h₀.get? s.heap.objs.size = none := next_is_new F
  have F1 : Fr h₀ env.locals (s.heap.push { cls := .type "list_iterator", data := .fields #[.ref ax, .int 0 0] }) m := F.keeps up
  have N1 := N.grown up
  have hIit : (s.heap.push { cls := .type "list_iterator", data := .fields #[.ref ax, .int 0 0] }).get? s.heap.objs.size = some { cls := .type "list_iterator", data := .fields #[.ref ax, .int 0 0] } := Heap.get?_push_size _ rfl
  have W : Walks prog w A s.heap.objs.size [s.heap.objs.size, ax] [s.heap.objs.size] (strL its).toArray.size _ _ := Walks.list hh s.heap.objs.size ax (Nat.ne_of_lt hlt) (strL its).toArray
  refine comp_begin (oA := listOf #[] 0) (fun Q hq => wpAny_newList hq) rfl hcell hkind F1 N1 ?_
  intro D C h2 tk2 F2 N2 hns2 keep2 hD hC hC₀ hCL
  have hsz1 : (s.heap.push { cls := .type "list_iterator", data := .fields #[.ref ax, .int 0 0] }).objs.size = s.heap.objs.size + 1 := Heap.size_push ..
  rw [show ({ s with heap := s.heap.push { cls := .type "list_iterator", data := .fields #[.ref ax, .int 0 0] } } : Shared).heap.objs.size = s.heap.objs.size + 1 from hsz1] at hD hC
  have hCf : C ∉ [s.heap.objs.size, ax] := by
    intro hmem
    rcases List.mem_cons.mp hmem with e | e
    · rw [hC] at e; exact absurd e (Nat.ne_of_gt (Nat.lt_succ_of_lt (Nat.lt_succ_self _)))
    · rw [List.mem_singleton.mp e] at hC; rw [hC] at hlt; exact absurd hlt (Nat.not_lt.mpr (Nat.le_succ_of_le (Nat.le_succ _)))
  have hst : (fun i (h : Heap) => h.IsListIter s.heap.objs.size ax i ∧ h.IsList ax (strL its).toArray) 0 h2 := ⟨⟨_, keep2 _ _ hIit, rfl, rfl⟩, ⟨_, keep2 _ _ (up _ _ hax.1), rfl, _, rfl⟩⟩
  have hmore : ∀ p ∈ (ax, listOf (strL its).toArray n0) :: more, p.1 < s.heap.objs.size := fun p hp => Heap.lt_size (N p hp).1
  have hoff : ∀ c : List ST × Nat, ∀ p ∈ ((D, listOf (strL c.1).toArray c.2) :: (ax, listOf (strL its).toArray n0) :: more : Led), p.1 ≠ s.heap.objs.size ∧ p.1 ≠ C := by
    intro c p hp
    rcases List.mem_cons.mp hp with rfl | hp
    · constructor
      · show D ≠ _; rw [hD]; exact Nat.ne_of_gt (Nat.lt_succ_self _)
      · show D ≠ _; rw [hD, hC]; exact Nat.ne_of_lt (Nat.lt_succ_self _)
    · have := hmore p hp
      constructor
      · exact Nat.ne_of_lt this
      · rw [hC]; exact Nat.ne_of_lt (Nat.lt_succ_of_lt (Nat.lt_succ_of_lt this))
  have key : codeAny (model prog w) A (.compLoop (.ListComp elt [⟨.Name x0 p0, .Name z pz, [], 0⟩, ⟨.Name x1 p1, i1, [], 0⟩] scope pos) 0 (.ref s.heap.objs.size) (.ref D) (compEnvC scope cl C env)) (compPost (model prog w) A E (some (assign (.Name y py) env)) (fun _ s' => Q .next s') (.ref D) C) { s with heap := h2, toks := tk2 } := by
    refine comp_walk (σ := List ST × Nat) rfl rfl (turn_list0 _ _ _ _ _ _ _ _ _ _) W (fun c => (D, listOf (strL c.1).toArray c.2) :: (ax, listOf (strL its).toArray n0) :: more)
      (fun i c => c.1.map (·.1) = strRows cnt f ((its.map (·.1)).take i)) (fun _ => True) ([], 0)
      (fun i h st => by obtain ⟨o, e, _⟩ := st.1; exact ⟨o, e⟩)
      (fun i c h h' o st e e' N' k' => ⟨by obtain ⟨o', q, r⟩ := st.1; rw [e] at q; cases q; exact ⟨o, e', r⟩, ⟨_, (N' _ (List.mem_cons_of_mem _ List.mem_cons_self)).1, rfl, _, rfl⟩⟩)
      hCf (Nat.ne_of_lt F.ns.lt) hI₀ hCL hC₀ (fun e => hCf (e ▸ List.mem_cons_self)) hoff (fun _ _ _ => trivial) rfl (lookup_relabel_local hx0) (by show (scope.kind == .class || (scope.kind == .module && _)) = false; rw [hkind]; rfl) hst F2 hns2 trivial N2 rfl ?_ ?_
    · intro i v c oI oC m₂ h tk E' hi hPv hPP hoC hm₂ _ F3 N3
      obtain ⟨⟨row, t⟩, hrow, rfl⟩ : ∃ p, its[i]? = some p ∧ v = strV p := by
        have h5 : (its.map strV)[i]? = some v := by simpa using hPv
        rw [List.getElem?_map] at h5
        cases e : its[i]? with
        | none => rw [e] at h5; cases h5
        | some p => rw [e] at h5; exact ⟨p, rfl, (Option.some.inj h5).symm⟩
      have hmem : (row, t) ∈ its := List.mem_of_getElem? hrow
      have hcr : cnt row ≤ 10 := hc _ hmem
      have hrow' : (its.map (·.1))[i]? = some row := by rw [List.getElem?_map, hrow]; rfl
      refine wpAny_bind (hrng row t _ oI C oC m₂ D _ h tk _ _ hmem hoC hm₂ F3 N3 ?_)
      intro r h4 tk4 ta tb tc hR F4 N4
      refine wpAny_bind (wpAny_standAt (wpAny_bind (wpAny_of_eq (hf1 C _) ?_)))
      refine wpAny_bind (wpAny_holding (wpAny_pyIter_range hR (range_small (by omega) (by omega) (by omega) (by omega)) ?_))
      refine wpAny_bind (wpAny_runOwn ?_)
      have hI2new : h₀.get? h4.objs.size = none := next_is_new F4
      have hlt4 : ∀ p ∈ ((s.heap.objs.size, oI) :: (C, oC) :: (D, listOf (strL c.1).toArray c.2) :: (ax, listOf (strL its).toArray n0) :: more : Led), p.1 < h4.objs.size := fun p hp => Heap.lt_size (N4 p hp).1
      have W2 : Walks prog w A h4.objs.size [h4.objs.size] [h4.objs.size] (cnt row) _ _ := range_walks hh 0 (cnt row)
      have up4 : ∀ b o, h4.get? b = some o → (h4.push { cls := .type "range_iterator", data := .fields #[rawInt 0, rawInt (Builtin.Range.rangeSize 0 (cnt row : Int) 1), rawInt 1] }).get? b = some o := fun b o e => Heap.get?_push_of_some _ e
      have F5 : Fr h₀ env.locals (h4.push { cls := .type "range_iterator", data := .fields #[rawInt 0, rawInt (Builtin.Range.rangeSize 0 (cnt row : Int) 1), rawInt 1] }) m := F4.keeps up4
      have N5 := N4.grown up4
      have hns5 := hoC.ns (N5 _ (List.mem_cons_of_mem _ List.mem_cons_self)).1
      have hoff2 : ∀ c' : List ST × Nat, ∀ p ∈ ((s.heap.objs.size, oI) :: (D, listOf (strL c'.1).toArray c'.2) :: (ax, listOf (strL its).toArray n0) :: more : Led), p.1 ≠ h4.objs.size ∧ p.1 ≠ C := by
        intro c' p hp
        rcases List.mem_cons.mp hp with rfl | hp
        · exact ⟨Nat.ne_of_lt (hlt4 _ List.mem_cons_self), fun e => hCf (by rw [← e]; exact List.mem_cons_self)⟩
        · refine ⟨?_, (hoff c' p hp).2⟩
          rcases List.mem_cons.mp hp with rfl | hp
          · exact Nat.ne_of_lt (hlt4 (D, listOf (strL c.1).toArray c.2) (List.mem_cons_of_mem _ (List.mem_cons_of_mem _ List.mem_cons_self)))
          · exact Nat.ne_of_lt (hlt4 p (List.mem_cons_of_mem _ (List.mem_cons_of_mem _ (List.mem_cons_of_mem _ hp))))
      have hst2 : IsRangeIter (h4.push { cls := .type "range_iterator", data := .fields #[rawInt 0, rawInt (Builtin.Range.rangeSize 0 (cnt row : Int) 1), rawInt 1] }) h4.objs.size (0 + ((0 : Nat) : Int) * 1) ((cnt row : Int) - ((0 : Nat) : Int)) 1 := by
        show IsRangeIter _ _ _ _ _
        rw [range_size]
        simpa using Heap.get?_push_size _ rfl
      have key2 : ∀ E2 : Value → Shared → Prop, codeAny (model prog w) A (.compLoop (.ListComp elt [⟨.Name x0 p0, .Name z pz, [], 0⟩, ⟨.Name x1 p1, i1, [], 0⟩] scope pos) 1 (.ref h4.objs.size) (.ref D) (compEnvC scope cl C env)) (fun r s' => match r with
          | .ok _ => ∃ (c' : List ST × Nat) (oC' : Obj) (m₂' : Str → Option Value) (h' : Heap) (tk' : Nat), s' = { s with heap := h', toks := tk' } ∧ Fr h₀ env.locals h' m ∧ News h₀ env.locals h' ((s.heap.objs.size, oI) :: (C, oC') :: (D, listOf (strL c'.1).toArray c'.2) :: (ax, listOf (strL its).toArray n0) :: more) ∧ NsObj oC' m₂' ∧ True ∧ c'.1.map (·.1) = strRows cnt f ((its.map (·.1)).take (i + 1))
          | .error x => E2 x s') { s with heap := h4.push { cls := .type "range_iterator", data := .fields #[rawInt 0, rawInt (Builtin.Range.rangeSize 0 (cnt row : Int) 1), rawInt 1] }, toks := tk4 } := by
        intro E2
        refine comp_walk (σ := List ST × Nat) rfl rfl (turn_list1 _ _ _ _ _ _ _ _ _ _) W2 (fun c' => (s.heap.objs.size, oI) :: (D, listOf (strL c'.1).toArray c'.2) :: (ax, listOf (strL its).toArray n0) :: more)
          (fun k c' => c'.1.map (·.1) = strRows cnt f ((its.map (·.1)).take i) ++ (List.range k).map (f row)) (fun g => g x0 = some (.str row t)) c
          (fun i h st => ⟨_, st⟩) (fun i c h h' o st e e' N' k' => by have st' : h.get? h4.objs.size = some _ := st; rw [e] at st'; cases st'; exact e')
          (fun e => absurd (List.mem_singleton.mp e) (Nat.ne_of_lt (hlt4 (C, oC) (List.mem_cons_of_mem _ List.mem_cons_self)))) (Nat.ne_of_lt F4.ns.lt) hI2new hCL hC₀ (Ne.symm (Nat.ne_of_lt (hlt4 (C, oC) (List.mem_cons_of_mem _ List.mem_cons_self)))) hoff2 (fun g v hg => by dsimp only; rw [if_neg hx01]; exact hg) rfl (lookup_relabel_local hx1) (by show (scope.kind == .class || (scope.kind == .module && _)) = false; rw [hkind]; rfl) hst2 F5 hns5 hm₂
          (fun p hp => N5 p (by rcases List.mem_cons.mp hp with rfl | hp; exact List.mem_cons_self; exact List.mem_cons_of_mem _ (List.mem_cons_of_mem _ hp))) (by rw [hPP]; simp) ?_ ?_
        · intro k v c' oI2 oC2 m₃ h5 tk5 E3 hk hPk hPP2 hoC2 hm3 hkm3 F6 N6
          obtain ⟨u, rfl⟩ := hPk
          rw [Int.zero_add] at hm3
          have N6' : News h₀ env.locals h5 ((h4.objs.size, oI2) :: (C, oC2) :: (s.heap.objs.size, oI) :: (D, listOf (strL c'.1).toArray c'.2) :: (ax, listOf (strL its).toArray n0) :: more) := N6
          refine wpAny_bind (helt row t k u _ oI2 C oC2 m₃ _ oI D _ h5 tk5 _ _ hmem hk hoC2 hkm3 hm3 F6 N6' ?_)
          intro t' h6 tk6 F7 N7
          have hlen : c'.1.length ≤ 10100 := by
            have e1 : (c'.1.map (·.1)).length = _ := congrArg List.length hPP2
            rw [List.length_map, List.length_append, List.length_map, List.length_range] at e1
            have e2 := strRows_len cnt f ((its.map (·.1)).take i) (fun q hq => by
              obtain ⟨p9, hp9, rfl⟩ := List.mem_map.mp (List.mem_of_mem_take hq)
              exact hc p9 hp9)
            rw [List.length_take, List.length_map] at e2
            omega
          refine wpAny_bind (append_S (its := c'.1) (n := c'.2) F7 N7 (.tail (Ne.symm (hoff2 c' (D, _) (List.mem_cons_of_mem _ List.mem_cons_self)).1) (.tail (Ne.symm (hoff2 c' (D, _) (List.mem_cons_of_mem _ List.mem_cons_self)).2) (.tail (Ne.symm (hoff c' (D, _) List.mem_cons_self).1) (.head ?_)))) (by rw [sizeLine_eq]; omega) ?_)
          · intro p hp
            exact Nat.ne_of_lt (by rw [hD]; exact Nat.lt_succ_of_lt (hmore p hp))
          · intro h7 F8 N8
            refine wpAny_pure ⟨(c'.1 ++ [(f row k, t')], c'.2 + 1), oC2, m₃, h7, _, rfl, F8, ?_, hoC2, hkm3, ?_⟩
            · exact N8
            · rw [List.map_append, hPP2, List.range_succ, List.map_append, List.append_assoc]; rfl
        · intro c' oC2 m₃ h5 tk5 hPP2 hoC2 hkm3 F6 N6
          refine ⟨c', oC2, m₃, h5, tk5, rfl, F6, ?_, hoC2, trivial, ?_⟩
          · intro p hp
            refine N6 p ?_
            rcases List.mem_cons.mp hp with rfl | hp
            · exact List.mem_cons_of_mem _ List.mem_cons_self
            · rcases List.mem_cons.mp hp with rfl | hp
              · exact List.mem_cons_self
              · exact List.mem_cons_of_mem _ (List.mem_cons_of_mem _ hp)
          · rw [hPP2, rowsStep cnt f _ hrow']
      refine start_list1 (codeAny_mono (key2 fun _ _ => False) ?_) (W2.self 0 _ _ _ hst2 (codeAny_mono (key2 fun _ _ => False) ?_))
      all_goals
        intro r s' hr
        cases r with
        | ok f => exact wpAny_pure hr
        | error e => exact False.elim hr
    · intro c oC m₂ h tk hPP hoC _ F3 N3
      refine comp_postA rfl F3 N3 hoC hCL hC₀ (fun p hp => (hoff c p hp).2) hy hp ?_
      intro h' tk' F4 N4
      refine fin D c.1 c.2 h' tk' ?_ F4 N4 (by rw [hD]; exact Nat.le_succ _)
      rw [hPP, List.size_toArray, List.length_map, List.take_of_length_le (by simp)]
  exact codeAny_compStart_list key (W.self 0 _ _ _ hst key)
end
theorem le_of_rising {a b : Str} (h : PySem.Spec.ltCps b.cps.toList a.cps.toList = false) : a.cps.toList ≤ b.cps.toList := by
  rw [PyProof.Rows.ltCps_eq] at h
  exact List.not_lt.mp (of_decide_eq_false h)
theorem pairwise_rising : ∀ (p : Str) (l : List Str), risingS p l = true → (p :: l).Pairwise (fun a b => a.cps.toList ≤ b.cps.toList)
  | p, [], _ => List.pairwise_singleton ..
  | p, x :: r, h => by
    have h' : (!PySem.Spec.ltCps x.cps.toList p.cps.toList && risingS x r) = true := h
    rw [Bool.and_eq_true] at h'
    have h1 : p.cps.toList ≤ x.cps.toList := le_of_rising (by simpa using h'.1)
    have h2 := pairwise_rising x r h'.2
    refine List.pairwise_cons.mpr ⟨?_, h2⟩
    intro q hq
    rcases List.mem_cons.mp hq with rfl | hq
    · exact h1
    · exact List.le_trans h1 (List.rel_of_pairwise_cons h2 hq)
theorem pairwise_sortedS : ∀ (l : List Str), sortedS l = true → l.Pairwise (fun a b => a.cps.toList ≤ b.cps.toList)
  | [], _ => List.Pairwise.nil
  | x :: r, h => pairwise_rising x r h
theorem sorted_uniq {l l' : List Str} (h : sortedS l = true) (h' : sortedS l' = true) (p : l.Perm l') : l = l' :=
  List.Perm.eq_of_pairwise (le := fun a b : Str => a.cps.toList ≤ b.cps.toList) (fun a b _ _ h1 h2 => by
    have e : a.cps.toList = b.cps.toList := List.le_antisymm h1 h2
    cases a; cases b
    congr 1
    exact Array.toList_inj.mp e) (pairwise_sortedS _ h) (pairwise_sortedS _ h') p
theorem strs_strL : ∀ (ts : List ST), PyProof.Rows.StrsAre (strL ts) (ts.map (·.1))
  | [] => .nil
  | (x, t) :: r => .cons x t (strs_strL r)
theorem strL_of_strs {vs : List Value} {ss : List Str} (h : PyProof.Rows.StrsAre vs ss) : ∃ ts : List ST, vs = strL ts ∧ ts.map (·.1) = ss := by
  induction h with
  | nil => exact ⟨[], rfl, rfl⟩
  | cons y t _ ih =>
    obtain ⟨ts, rfl, rfl⟩ := ih
    exact ⟨(y, t) :: ts, rfl, rfl⟩
theorem sorted_S {prog : Program} {w : World} {A : Around} {E : Value → Shared → Prop} {s : Shared} {h₀ : Heap} {L : Addr} {m : Str → Option Value} {news : Led} {l : Addr} {ts : List ST} {n : Nat} {Q : Value → Shared → Prop}
    (F : Fr h₀ L s.heap m) (N : News h₀ L s.heap news) (hm : (l, listOf (strL ts).toArray n) ∈ news) (h64 : ts.length < 64)
    (h : ∀ (h' : Heap) (d : Addr) (ts' : List ST) (e : Nat), Fr h₀ L h' m → News h₀ L h' ((d, listOf (strL ts').toArray e) :: news) → (∀ p ∈ news, p.1 < d) → 
      (ts'.map (·.1)).Perm (ts.map (·.1)) → sortedS (ts'.map (·.1)) = true → Q (.ref d) { s with heap := h' }) :
    wpAny (model prog w) A (call (.builtin "sorted") [.ref l]) Q E s := by
  have hl : s.heap.IsList l (strL ts).toArray := ⟨_, (N _ hm).1, rfl, _, rfl⟩
  refine PyProof.Rows.sorted_N_str F N hl (strs_strL ts) (by rw [List.length_map]; exact h64) fun h' vs' ss' e F' N' hS hp hs => ?_
  obtain ⟨ts', rfl, rfl⟩ := strL_of_strs hS
  exact h h' _ ts' e F' N' (fun p hp => Nat.lt_succ_of_lt (Heap.lt_size (N p hp).1)) hp hs
section
def otherOf (sg : Str) (c : Nat) : Str := if (⟨#[c]⟩ : Str) = Txt.item sg 0 then Txt.item sg 1 else Txt.item sg 0
def laidF (sg : Str) (c : Nat) (row : Str) (k : Nat) : Str := (row ++ Txt.mul (otherOf sg c) (k : Int)) ++ ⟨#[c]⟩
def laidStep (sg : Str) (rows : List Str) (c : Nat) : List Str := strRows (fun row => 5 - row.length) (laidF sg c) rows
def laidAll (sg : Str) (cs : List Nat) : List Str := cs.foldl (laidStep sg) [Str.ofString ""]
theorem mul_len (x : Str) (k : Nat) : (Txt.mul x (k : Int)).length = k * x.length := by
  have h := PyProof.Rows.len_mul x (k : Int)
  rw [if_neg (by simp)] at h
  have e : ((k * x.length : Nat) : Int) = (x.length : Int) * (k : Int) := by rw [Int.natCast_mul, Int.mul_comm]
  omega
theorem app_len (a b : Str) : (a ++ b).length = a.length + b.length := by
  show (a.cps ++ b.cps).size = _
  exact Array.size_append ..
theorem laidF_len {sg : Str} (h0 : (Txt.item sg 0).length = 1) (h1 : (Txt.item sg 1).length = 1) (c : Nat) (row : Str) (k : Nat) : (laidF sg c row k).length = row.length + k + 1 := by
  have hoth : (otherOf sg c).length = 1 := by unfold otherOf; split; exact h1; exact h0
  unfold laidF
  rw [app_len, app_len, mul_len, hoth, Nat.mul_one]
  rfl
theorem laidAll_len {sg : Str} (h0 : (Txt.item sg 0).length = 1) (h1 : (Txt.item sg 1).length = 1) (cs : List Nat) : ∀ r ∈ laidAll sg cs, r.length ≤ 5 := by
  have key : ∀ (cs : List Nat) (rows : List Str), (∀ r ∈ rows, r.length ≤ 5) → ∀ r ∈ cs.foldl (laidStep sg) rows, r.length ≤ 5 := by
    intro cs
    induction cs with
    | nil => exact fun rows h => h
    | cons c cs ih =>
      intro rows h
      refine ih _ ?_
      intro r hr
      unfold laidStep strRows at hr
      obtain ⟨row, hrow, hr⟩ := List.mem_flatMap.mp hr
      obtain ⟨k, hk, rfl⟩ := List.mem_map.mp hr
      have hk' : k < 5 - row.length := List.mem_range.mp hk
      rw [laidF_len h0 h1]
      omega
  exact key cs _ (by intro r hr; rw [List.mem_singleton.mp hr]; decide)
theorem laid_spec (w : World) (word sg : Str) (tw t1 t2 : Tok) (news : Led) (hsg : sg.length = 2) (hi0 : (Txt.item sg 0).length = 1) (hi1 : (Txt.item sg 1).length = 1) (hw : word.length < 10) (ha : word.cps.all (· < 128) = true) (hlen : ∀ j, (laidAll sg (word.cps.toList.take j)).length < 64) :
    CallSpec w 89 [.str word tw, .str sg t1, .int 5 t2] news 2 16 (fun r news' => ∃ d ts n, r = .ref d ∧ news' = (d, listOf (strL ts).toArray n) :: news ∧ (∀ p ∈ news, p.1 < d) ∧ (ts.map (·.1)).Perm (laidAll sg word.cps.toList) ∧ sortedS (ts.map (·.1)) = true) := by
  w_top off
  unfold CallSpec
  k_fill
  intro mean mg mb dp un gd cn cs a ccd cl outer A₀ base h₀ L m s Q E B F X N T hk hd hu hret
  refine wpAny_call ?_
  k_dflt (refine' code_defC ?k1 ?k2 ?k3 ?k4 ?k5 ?kA ?kF ?kK ?k6 ?k7 ?k8 ?k9 ?kB ?kD ?_ ?c2 ?c3 ?c4; (case kA => exact rfl); (case kF => exact rfl); (case kK => assumption); (case k1 => k_asm); (case k2 => k_asm); (case k3 => k_asm); (case k4 => k_asm); (case k5 => k_asm); (case k6 => k_is); (case k7 => k_is); (case k8 => ktr_room); (case k9 => exact BindsTo.of_eq rfl); (case kB => exact rfl); (case kD => decide +kernel); (case c2 => exact rfl); (case c3 => exact rfl); (case c4 => exact rfl); k_whole; intro g1 L1 h' tk1 cells' FG1 F' N' Y' B1 X1 T1 l1; (try k_lt l1); k_cells Y'; (try simp only [List.cons_append, List.nil_append] at N'); (try dsimp only); (try k_fold))
  (repeat' ((fail_if_success (with_reducible show wpAny _ _ (exec (Stmt.While _ _ _ _) _) _ _ _)); (fail_if_success (with_reducible show wpAny _ _ (exec (Stmt.For _ _ _ _ _) _) _ _ _)); (fail_if_success (with_reducible show wpAny _ _ (pyIter _) _ _ _)); (fail_if_success (with_reducible show wpAny _ _ (exec (Stmt.Assign _ (PySem.Expr.ListComp _ _ _ _) _) _) _ _ _)); (fail_if_success (with_reducible show wpAny _ _ (call (Value.builtin "sorted") _) _ _ _)); (fail_if_success (with_reducible show wpAny _ _ (call (Value.builtin "str.split") _) _ _ _)); (fail_if_success (with_reducible show KswEnd _ _ _ _ _ _ _ _ _ _ _ _)); (fail_if_success (with_reducible show FlEnd _ _ _ _ _ _ _ _ _ _ _)); (first | (k_unfold; (try dsimp only)) | (k_end; wrow_close) | walk1 | (dsimp only; walk1) | (dsimp only [List.cons_append, List.nil_append]; walk1) | (leave1; walk_say "STEP leave1"; try dsimp only) | fail "no step")))
  rename Fr _ _ _ _ => F1
  rename News _ _ _ _ => N1
  rename (_ < _ ∧ _) => hlts
  rename (Obj.data _ = .cell (bindC _ _ _ (Str.ofString "size"))) => hS0
  rename (Obj.data _ = .cell (bindC _ _ _ (Str.ofString "letter"))) => hL0
  rename (Obj.data _ = .cell (bindC _ _ _ (Str.ofString "other"))) => hO0
  rename_i oO oL oS R0 _ _
  have hS : oS.data = .cell (some (.int 5 t2)) := hS0
  have hL : oL.data = .cell none := hL0
  have hO : oO.data = .cell none := hO0
  clear hS0 hL0 hO0
  refine For_turns F1 ?_
  (repeat' ((fail_if_success (with_reducible show wpAny _ _ (exec (Stmt.While _ _ _ _) _) _ _ _)); (fail_if_success (with_reducible show wpAny _ _ (exec (Stmt.For _ _ _ _ _) _) _ _ _)); (fail_if_success (with_reducible show wpAny _ _ (pyIter _) _ _ _)); (fail_if_success (with_reducible show wpAny _ _ (exec (Stmt.Assign _ (PySem.Expr.ListComp _ _ _ _) _) _) _ _ _)); (fail_if_success (with_reducible show wpAny _ _ (call (Value.builtin "sorted") _) _ _ _)); (fail_if_success (with_reducible show wpAny _ _ (call (Value.builtin "str.split") _) _ _ _)); (fail_if_success (with_reducible show KswEnd _ _ _ _ _ _ _ _ _ _ _ _)); (fail_if_success (with_reducible show FlEnd _ _ _ _ _ _ _ _ _ _ _)); (first | (k_unfold; (try dsimp only)) | (k_end; wrow_close) | walk1 | (dsimp only; walk1) | (dsimp only [List.cons_append, List.nil_append]; walk1) | (leave1; walk_say "STEP leave1"; try dsimp only) | fail "no step")))
  rename News _ _ _ _ => N2
  refine iter_strTurns rfl ha F1 N2 ?_
  intro I hI
  refine' fl_rest (σ := Addr × List ST × Nat × Obj × Obj) (fun c => (c.1, listOf (strL c.2.1).toArray c.2.2.1) :: (L1 + 1 + 1 + 1, c.2.2.2.1) :: (L1 + 1 + 1, c.2.2.2.2) :: (L1 + 1, oS) :: news) (fun c => [(Str.ofString "rows", .ref c.1)]) [] (fun r c => ∃ j, r = (word.cps.toList.drop j).map (fun c => Itm.tok (fun u => .str ⟨#[c]⟩ u)) ∧ c.2.1.map (·.1) = laidAll sg (word.cps.toList.take j) ∧ c.1 ≠ I ∧ L1 + 1 + 1 + 1 < c.1 ∧ (∃ q, c.2.2.2.1.data = .cell q) ∧ (∃ q, c.2.2.2.2.data = .cell q)) (R0, [(Str.ofString "", tk1)], 0, oO, oL) _ ?g1 ?g2 ?g3 ?g4 ?g5
  case g1 => exact fun c => trivial
  case g2 => exact List.forall_mem_cons.mpr ⟨by rfl, List.forall_mem_nil _⟩
  case g3 => exact ⟨0, rfl, rfl, Nat.ne_of_lt (hI _ List.mem_cons_self), hlts.1, ⟨_, hO⟩, ⟨_, hL⟩⟩
  case g4 =>
    rintro it a9 r ⟨R, ts, n9, oO2, oL2⟩ u v h tk ⟨j, er, hts, hRI, hR3, ⟨qO, hO2⟩, ⟨qL, hL2⟩⟩ hit hav F6 N6
    cases er9 : word.cps.toList.drop j with
    | nil => rw [er9] at er; cases er
    | cons c9 cs9 =>
    rw [er9] at er
    injection er with e1 e2
    subst e1 e2
    obtain ⟨t8, rfl⟩ := hav
    dsimp only [kstB] at F6 N6 hts hRI hR3 hO2 hL2
    replace F6 : Fr g1 L1 _ _ := F6
    replace N6 : News g1 L1 _ _ := N6
    have hI3 : L1 + 1 + 1 + 1 < I := hI (L1 + 1 + 1 + 1, oO) (by simp)
    have hI2 : L1 + 1 + 1 < I := hI (L1 + 1 + 1, oL) (by simp)
    have hI1 : L1 + 1 < I := hI (L1 + 1, oS) (by simp)
    have hR2 : L1 + 1 + 1 < R := Nat.lt_trans (Nat.lt_succ_self _) hR3
    have hR1 : L1 + 1 < R := Nat.lt_trans (Nat.lt_succ_self _) hR2
    have hn1 : ∀ p ∈ news, p.1 ≠ L1 + 1 := fun p hp => Nat.ne_of_lt (Nat.lt_succ_of_lt (l1 p hp))
    have hn2 : ∀ p ∈ news, p.1 ≠ L1 + 1 + 1 := fun p hp => Nat.ne_of_lt (Nat.lt_succ_of_lt (Nat.lt_succ_of_lt (l1 p hp)))
    have hn3 : ∀ p ∈ news, p.1 ≠ L1 + 1 + 1 + 1 := fun p hp => Nat.ne_of_lt (Nat.lt_succ_of_lt (Nat.lt_succ_of_lt (Nat.lt_succ_of_lt (l1 p hp))))
    try k_fold
    (repeat' ((fail_if_success (with_reducible show wpAny _ _ (exec (Stmt.While _ _ _ _) _) _ _ _)); (fail_if_success (with_reducible show wpAny _ _ (exec (Stmt.For _ _ _ _ _) _) _ _ _)); (fail_if_success (with_reducible show wpAny _ _ (pyIter _) _ _ _)); (fail_if_success (with_reducible show wpAny _ _ (exec (Stmt.Assign _ (PySem.Expr.ListComp _ _ _ _) _) _) _ _ _)); (fail_if_success (with_reducible show wpAny _ _ (call (Value.builtin "sorted") _) _ _ _)); (fail_if_success (with_reducible show wpAny _ _ (call (Value.builtin "str.split") _) _ _ _)); (fail_if_success (with_reducible show KswEnd _ _ _ _ _ _ _ _ _ _ _ _)); (fail_if_success (with_reducible show FlEnd _ _ _ _ _ _ _ _ _ _ _)); (first | (k_unfold; (try dsimp only)) | (k_end; wrow_close) | walk1 | (dsimp only; walk1) | (dsimp only [List.cons_append, List.nil_append]; walk1) | (leave1; walk_say "STEP leave1"; try dsimp only) | fail "no step")))
    refine' storeX_C (c := L1 + 1 + 1) F6 N6 ?sc (UpdF.tail (Nat.ne_of_gt hI2) (UpdF.tail (Nat.ne_of_gt hR2) (UpdF.tail (Nat.ne_of_gt (Nat.lt_succ_self _)) (UpdF.head ?sh)))) hL2 ?_ ?sa ?sb
    case sc => rfl
    case sa => rfl
    case sb => rfl
    case sh => exact List.forall_mem_cons.mpr ⟨Nat.ne_of_lt (Nat.lt_succ_self _), hn2⟩
    intro h7 oL3 F7 N7 hL3
    (repeat' ((fail_if_success (with_reducible show wpAny _ _ (exec (Stmt.While _ _ _ _) _) _ _ _)); (fail_if_success (with_reducible show wpAny _ _ (exec (Stmt.For _ _ _ _ _) _) _ _ _)); (fail_if_success (with_reducible show wpAny _ _ (pyIter _) _ _ _)); (fail_if_success (with_reducible show wpAny _ _ (exec (Stmt.Assign _ (PySem.Expr.ListComp _ _ _ _) _) _) _ _ _)); (fail_if_success (with_reducible show wpAny _ _ (call (Value.builtin "sorted") _) _ _ _)); (fail_if_success (with_reducible show wpAny _ _ (call (Value.builtin "str.split") _) _ _ _)); (fail_if_success (with_reducible show KswEnd _ _ _ _ _ _ _ _ _ _ _ _)); (fail_if_success (with_reducible show FlEnd _ _ _ _ _ _ _ _ _ _ _)); (first | (k_unfold; (try dsimp only)) | (k_end; wrow_close) | walk1 | (dsimp only; walk1) | (dsimp only [List.cons_append, List.nil_append]; walk1) | (leave1; walk_say "STEP leave1"; try dsimp only) | fail "no step")))
    all_goals
      refine' storeX_C (c := L1 + 1 + 1 + 1) F7 N7 ?sc (UpdF.tail (Nat.ne_of_gt hI3) (UpdF.tail (Nat.ne_of_gt hR3) (UpdF.head ?sh))) hO2 ?_ ?sa ?sb
      case sc => rfl
      case sa => rfl
      case sb => rfl
      case sh => exact List.forall_mem_cons.mpr ⟨Nat.ne_of_lt (Nat.lt_succ_self _), List.forall_mem_cons.mpr ⟨Nat.ne_of_lt (Nat.lt_succ_of_lt (Nat.lt_succ_self _)), hn3⟩⟩
      intro h8 oO3 F8 N8 hO3'
      obtain ⟨to, hO3⟩ : ∃ to, oO3.data = .cell (some (.str (otherOf sg c9) to)) := ⟨_, hO3'.trans (by unfold otherOf; first | rw [if_pos (by simpa using (by assumption : (({ cps := #[c9] } : Str) == Txt.item sg 0) = true))] | rw [if_neg (by simpa using (by assumption : (({ cps := #[c9] } : Str) == Txt.item sg 0) = false))])⟩
      clear hO3'
      (repeat' ((fail_if_success (with_reducible show wpAny _ _ (exec (Stmt.While _ _ _ _) _) _ _ _)); (fail_if_success (with_reducible show wpAny _ _ (exec (Stmt.For _ _ _ _ _) _) _ _ _)); (fail_if_success (with_reducible show wpAny _ _ (pyIter _) _ _ _)); (fail_if_success (with_reducible show wpAny _ _ (exec (Stmt.Assign _ (PySem.Expr.ListComp _ _ _ _) _) _) _ _ _)); (fail_if_success (with_reducible show wpAny _ _ (call (Value.builtin "sorted") _) _ _ _)); (fail_if_success (with_reducible show wpAny _ _ (call (Value.builtin "str.split") _) _ _ _)); (fail_if_success (with_reducible show KswEnd _ _ _ _ _ _ _ _ _ _ _ _)); (fail_if_success (with_reducible show FlEnd _ _ _ _ _ _ _ _ _ _ _)); (first | (k_unfold; (try dsimp only)) | (k_end; wrow_close) | walk1 | (dsimp only; walk1) | (dsimp only [List.cons_append, List.nil_append]; walk1) | (leave1; walk_say "STEP leave1"; try dsimp only) | fail "no step")))
      have N8' : News g1 L1 h8 ((R, listOf (strL ts).toArray n9) :: (I, it) :: (L1 + 1 + 1 + 1, oO3) :: (L1 + 1 + 1, oL3) :: (L1 + 1, oS) :: news) := fun p hp => N8 p (by simp only [List.mem_cons] at hp ⊢; rcases hp with h | h | h <;> simp [h])
      have hrows : ∀ p ∈ ts, p.1.length ≤ 5 := fun p hp => by
        have e1 : p.1 ∈ laidAll sg (word.cps.toList.take j) := hts ▸ List.mem_map_of_mem hp
        exact laidAll_len hi0 hi1 _ _ e1
      refine' comp2_assign (its := ts) (n0 := n9) (more := (I, it) :: (L1 + 1 + 1 + 1, oO3) :: (L1 + 1 + 1, oL3) :: (L1 + 1, oS) :: news) (fun row => 5 - row.length) (laidF sg c9) rfl ?h1 ?h2 ?h3 ?h4 ?h5 ?h6 ?h7 ?h8 ?h9 ?h10 ?h11 F8 N8' ?h12 ?h13 ?h14 ?h15 ?h16 ?h17
      case h1 => rfl
      case h2 => rfl
      case h3 => decide
      case h4 => rfl
      case h5 => decide
      case h6 => rfl
      case h7 => rfl
      case h8 => decide
      case h9 => rfl
      case h10 => rfl
      case h11 => intro _ _; rfl
      case h12 =>
        have e1 := hlen j
        rw [← hts, List.length_map] at e1
        exact Nat.lt_trans e1 (by decide)
      case h13 => intro p hp; exact Nat.le_trans (Nat.sub_le _ _) (by decide)
      case h14 => intro Q9 hQ9; exact nameX_L F8 (by rfl) hQ9
      case h15 =>
        intro row t I9 oI9 C oC m₂ D oD h9 tk9 Q9 E9 hmem hoC hm0 F9 N9 hQ9
        replace F9 : Fr g1 L1 _ _ := F9
        replace N9 : News g1 L1 _ _ := N9
        have hrow : row.length ≤ 5 := hrows _ hmem
        (repeat' ((fail_if_success (with_reducible show wpAny _ _ (exec (Stmt.While _ _ _ _) _) _ _ _)); (fail_if_success (with_reducible show wpAny _ _ (exec (Stmt.For _ _ _ _ _) _) _ _ _)); (fail_if_success (with_reducible show wpAny _ _ (pyIter _) _ _ _)); (fail_if_success (with_reducible show wpAny _ _ (exec (Stmt.Assign _ (PySem.Expr.ListComp _ _ _ _) _) _) _ _ _)); (fail_if_success (with_reducible show wpAny _ _ (call (Value.builtin "sorted") _) _ _ _)); (fail_if_success (with_reducible show wpAny _ _ (call (Value.builtin "str.split") _) _ _ _)); (fail_if_success (with_reducible show KswEnd _ _ _ _ _ _ _ _ _ _ _ _)); (fail_if_success (with_reducible show FlEnd _ _ _ _ _ _ _ _ _ _ _)); (first | (k_unfold; (try dsimp only)) | (k_end; wrow_close) | walk1 | (dsimp only; walk1) | (dsimp only [List.cons_append, List.nil_append]; walk1) | (leave1; walk_say "STEP leave1"; try dsimp only) | fail "no step")))
        rename IsRange _ _ _ _ _ _ _ _ => hR9
        rename Fr _ _ _ _ => F10
        rename News _ _ _ _ => N10
        have e10 : ((5 - row.length : Nat) : Int) = 5 - (row.length : Int) := by omega
        rw [← e10] at hR9
        exact hQ9 _ _ _ _ _ _ hR9 F10 N10
      case h16 =>
        intro row t k u I2 oI2 C oC m₂ I9 oI9 D oD h9 tk9 Q9 E9 hmem hk hoC hm0 hm1 F9 N9 hQ9
        replace F9 : Fr g1 L1 _ _ := F9
        replace N9 : News g1 L1 _ _ := N9
        have hrow : row.length ≤ 5 := hrows _ hmem
        have hoth : (otherOf sg c9).length = 1 := by unfold otherOf; split; exact hi1; exact hi0
        have hk5 : k < 5 - row.length := hk
        have hmul : (Txt.mul (otherOf sg c9) (k : Int)).length = k := by rw [mul_len, hoth]; omega
        (repeat' ((fail_if_success (with_reducible show wpAny _ _ (exec (Stmt.While _ _ _ _) _) _ _ _)); (fail_if_success (with_reducible show wpAny _ _ (exec (Stmt.For _ _ _ _ _) _) _ _ _)); (fail_if_success (with_reducible show wpAny _ _ (pyIter _) _ _ _)); (fail_if_success (with_reducible show wpAny _ _ (exec (Stmt.Assign _ (PySem.Expr.ListComp _ _ _ _) _) _) _ _ _)); (fail_if_success (with_reducible show wpAny _ _ (call (Value.builtin "sorted") _) _ _ _)); (fail_if_success (with_reducible show wpAny _ _ (call (Value.builtin "str.split") _) _ _ _)); (fail_if_success (with_reducible show KswEnd _ _ _ _ _ _ _ _ _ _ _ _)); (fail_if_success (with_reducible show FlEnd _ _ _ _ _ _ _ _ _ _ _)); (first | (k_unfold; (try dsimp only)) | (k_end; wrow_close) | walk1 | (dsimp only; walk1) | (dsimp only [List.cons_append, List.nil_append]; walk1) | (leave1; walk_say "STEP leave1"; try dsimp only) | fail "no step")))
        rename Fr _ _ _ _ => F10
        rename News _ _ _ _ => N10
        exact hQ9 _ _ _ F10 N10
      case h17 =>
        intro D ts9 n10 h9 tk9 e9 F9 N9 hD9
        replace F9 : Fr g1 L1 _ _ := F9
        replace N9 : News g1 L1 _ _ := N9
        have hDI : I < D := Nat.lt_of_lt_of_le (Heap.lt_size (N8' (I, it) (List.mem_cons_of_mem _ List.mem_cons_self)).1) hD9
        clear N8 N8' F8
        (repeat' ((fail_if_success (with_reducible show wpAny _ _ (exec (Stmt.While _ _ _ _) _) _ _ _)); (fail_if_success (with_reducible show wpAny _ _ (exec (Stmt.For _ _ _ _ _) _) _ _ _)); (fail_if_success (with_reducible show wpAny _ _ (pyIter _) _ _ _)); (fail_if_success (with_reducible show wpAny _ _ (exec (Stmt.Assign _ (PySem.Expr.ListComp _ _ _ _) _) _) _ _ _)); (fail_if_success (with_reducible show wpAny _ _ (call (Value.builtin "sorted") _) _ _ _)); (fail_if_success (with_reducible show wpAny _ _ (call (Value.builtin "str.split") _) _ _ _)); (fail_if_success (with_reducible show KswEnd _ _ _ _ _ _ _ _ _ _ _ _)); (fail_if_success (with_reducible show FlEnd _ _ _ _ _ _ _ _ _ _ _)); (first | (k_unfold; (try dsimp only)) | (k_end; wrow_close) | walk1 | (dsimp only; walk1) | (dsimp only [List.cons_append, List.nil_append]; walk1) | (leave1; walk_say "STEP leave1"; try dsimp only) | fail "no step")))
        rename Fr _ _ _ _ => F10
        rename News _ _ _ _ => N10
        refine' fl_end (D, ts9, n10, oO3, oL3) F10 N10 ?ga ?gb ?gc ?gd ?ge
        case ga =>
          intro p hp
          simp only [List.mem_cons] at hp ⊢
          rcases hp with h | h | h | h | h | h <;> simp [h]
        case gb =>
          exact List.forall_mem_cons.mpr ⟨Nat.ne_of_gt hDI, List.forall_mem_cons.mpr ⟨Nat.ne_of_lt hI3, List.forall_mem_cons.mpr ⟨Nat.ne_of_lt hI2, List.forall_mem_cons.mpr ⟨Nat.ne_of_lt hI1, fun p hp => Nat.ne_of_lt (Nat.lt_trans (l1 p hp) (Nat.lt_trans (Nat.lt_succ_self _) hI1))⟩⟩⟩⟩
        case gc => exact List.forall_mem_cons.mpr ⟨by rfl, List.forall_mem_nil _⟩
        case gd => ksw_same
        case ge =>
          have hj : word.cps.toList[j]? = some c9 := by
            have := congrArg List.head? er9
            rw [List.head?_drop] at this
            exact this
          refine ⟨j + 1, ?_, ?_, Nat.ne_of_gt hDI, Nat.lt_trans hI3 hDI, ⟨_, hO3⟩, ⟨_, hL3⟩⟩
          · rw [← List.drop_drop, er9]; rfl
          · show ts9.map (·.1) = _
            rw [e9, hts, List.take_add_one, hj]
            unfold laidAll
            rw [List.foldl_append]
            rfl
  case g5 =>
    rintro ⟨R, ts, n9, oO2, oL2⟩ u h tk ⟨j, er, hts, hRI, hR3, ⟨qO, hO2⟩, ⟨qL, hL2⟩⟩ F6 N6
    dsimp only [kstB] at F6 N6 hts hRI hR3 hO2 hL2
    replace F6 : Fr g1 L1 _ _ := F6
    replace N6 : News g1 L1 _ _ := N6
    try k_fold
    (repeat' ((fail_if_success (with_reducible show wpAny _ _ (exec (Stmt.While _ _ _ _) _) _ _ _)); (fail_if_success (with_reducible show wpAny _ _ (exec (Stmt.For _ _ _ _ _) _) _ _ _)); (fail_if_success (with_reducible show wpAny _ _ (pyIter _) _ _ _)); (fail_if_success (with_reducible show wpAny _ _ (exec (Stmt.Assign _ (PySem.Expr.ListComp _ _ _ _) _) _) _ _ _)); (fail_if_success (with_reducible show wpAny _ _ (call (Value.builtin "sorted") _) _ _ _)); (fail_if_success (with_reducible show wpAny _ _ (call (Value.builtin "str.split") _) _ _ _)); (fail_if_success (with_reducible show KswEnd _ _ _ _ _ _ _ _ _ _ _ _)); (fail_if_success (with_reducible show FlEnd _ _ _ _ _ _ _ _ _ _ _)); (first | (k_unfold; (try dsimp only)) | (k_end; wrow_close) | walk1 | (dsimp only; walk1) | (dsimp only [List.cons_append, List.nil_append]; walk1) | (leave1; walk_say "STEP leave1"; try dsimp only) | fail "no step")))
    have hj : (word.cps.toList.drop j) = [] := by
      cases e : word.cps.toList.drop j with
      | nil => rfl
      | cons _ _ => rw [e] at er; cases er
    have htk : word.cps.toList.take j = word.cps.toList := by
      have := List.take_append_drop j word.cps.toList
      rw [hj, List.append_nil] at this
      exact this
    have h64 : ts.length < 64 := by
      have e1 := hlen j
      rw [← hts, List.length_map] at e1
      exact e1
    rw [htk] at hts
    refine sorted_S F6 N6 List.mem_cons_self h64 ?_
    intro h9 d9 ts9 e9 F9 N9 hlt9 hp9 hs9
    rw [hts] at hp9
    replace N9 : News g1 L1 h9 ((d9, listOf (strL ts9).toArray e9) :: news) := fun p hp => N9 p (by simp only [List.mem_cons] at hp ⊢; rcases hp with h | h <;> simp [h])
    have hltn : ∀ p ∈ news, p.1 < d9 := fun p hp => hlt9 p (by simp [hp])
    clear N6 F6
    (repeat' ((fail_if_success (with_reducible show wpAny _ _ (exec (Stmt.While _ _ _ _) _) _ _ _)); (fail_if_success (with_reducible show wpAny _ _ (exec (Stmt.For _ _ _ _ _) _) _ _ _)); (fail_if_success (with_reducible show wpAny _ _ (pyIter _) _ _ _)); (fail_if_success (with_reducible show wpAny _ _ (exec (Stmt.Assign _ (PySem.Expr.ListComp _ _ _ _) _) _) _ _ _)); (fail_if_success (with_reducible show wpAny _ _ (call (Value.builtin "sorted") _) _ _ _)); (fail_if_success (with_reducible show wpAny _ _ (call (Value.builtin "str.split") _) _ _ _)); (fail_if_success (with_reducible show KswEnd _ _ _ _ _ _ _ _ _ _ _ _)); (fail_if_success (with_reducible show FlEnd _ _ _ _ _ _ _ _ _ _ _)); (first | (k_unfold; (try dsimp only)) | (k_end; wrow_close) | walk1 | (dsimp only; walk1) | (dsimp only [List.cons_append, List.nil_append]; walk1) | (leave1; walk_say "STEP leave1"; try dsimp only) | fail "no step")))
    exact hret _ _ _ _ ⟨d9, ts9, e9, rfl, rfl, hltn, hp9, hs9⟩ (by assumption) (by assumption)
end
section
variable {prog : Program} {w : World} {A : Around} {E : Value → Shared → Prop} {s : Shared} {h₀ : Heap} {L : Addr} {news : Led}
theorem menu3 {value slice : PySem.Expr} {D : Addr} {o : Obj} {a b c : Str} {ta tb tc u : Tok} {n : Nat} {k : Int} {Q : Value → Shared → Prop} (N : News h₀ L s.heap news) (hm : (D, o) ∈ news) (hc : o.cls = .type "tuple") (hd : o.data = .seq [.str a ta, .str b tb, .str c tc].toArray n)
    (h : ∀ x t, (x = a ∨ x = b ∨ x = c) → Q (.str x t) s)
    (hs : subscripted slice false (.ref D) (.int (k.fmod 3) u) = operate [.ref D, .int (k.fmod 3) u] (getItem (.ref D) (.int (k.fmod 3) u)) := by with_unfolding_all rfl) (hg : ∀ r, letTemporaryGo value (.ref D) r = pure () := by intro _; with_unfolding_all rfl) :
    wpAny (model prog w) A (subscriptTail value slice (.ref D) (.int (k.fmod 3) u)) Q E s := by
  have h0 : 0 ≤ k.fmod 3 := Int.fmod_nonneg_of_pos _ (by decide)
  have h1 : k.fmod 3 < 3 := Int.fmod_lt_of_pos _ (by decide)
  generalize hk : k.fmod 3 = i at *
  have hi : i = 0 ∨ i = 1 ∨ i = 2 := by omega
  rcases hi with rfl | rfl | rfl
  · exact kim_tup (j := 0) N hm hc hd (by decide) (by decide) (by rfl) rfl (h a ta (Or.inl rfl)) hs hg
  · exact kim_tup (j := 1) N hm hc hd (by decide) (by decide) (by rfl) rfl (h b tb (Or.inr (Or.inl rfl))) hs hg
  · exact kim_tup (j := 2) N hm hc hd (by decide) (by decide) (by rfl) rfl (h c tc (Or.inr (Or.inr rfl))) hs hg
end
section
open PyProof.Rows.LCg
variable {prog : Program} {w : World} {A : Around} {E : Value → Shared → Prop} {s : Shared} {h₀ : Heap} {L : Addr} {m : Str → Option Value} {env : Env}
/-- the turns of a list comprehension by what holds of the values made so far -/
theorem compRest_inv {elt : PySem.Expr} {x : Str} {scope : Scope} {cl : List (Str × Addr)} {S : Led → Prop} {P : Nat → Value → Prop} {Fin : List Value → Led → Prop} {news : Led} {n : Nat} (Inv : Nat → List Value → Prop) (hS : S news) (h0 : Inv 0 [])
    (turn : ∀ i ys v I oI C oC D m₂ h tk (Q E' : Value → Shared → Prop), i < n → Inv i ys → P i v → NsObj oC m₂ → m₂ x = some v → Fr h₀ L h m → News h₀ L h ((I, oI) :: (C, oC) :: (D, lst ys) :: news) →
      (∀ y h' tk', Fr h₀ L h' m → News h₀ L h' ((I, oI) :: (C, oC) :: (D, lst ys) :: news) → Inv (i + 1) (ys ++ [y]) → Q y { s with heap := h', toks := tk' }) →
      wpAny (model prog w) A (eval elt (compEnvC scope cl C env)) Q E' { s with heap := h, toks := tk })
    (fin : ∀ ys, Inv n ys → Fin ys news) : CompRest prog w A h₀ L m env elt x scope cl s S P Fin n 0 [] news := by
  have key : ∀ k i ys, i + k = n → Inv i ys → CompRest prog w A h₀ L m env elt x scope cl s S P Fin k i ys news := by
    intro k
    induction k with
    | zero => intro i ys hik hI; obtain rfl : i = n := by omega
              exact CompRest.zero (fin ys hI)
    | succ k ih =>
      intro i ys hik hI
      refine CompRest.succ fun v I oI C oC D m₂ h tk E' hP hC hx F N off ne => ?_
      refine turn i ys v I oI C oC D m₂ h tk _ E' (by omega) hI hP hC hx F N ?_
      intro y h' tk' F' N' hI'
      exact CompEnd.intro F' N' news (fun _ h => h) off hS (ih (i + 1) _ (by omega) hI')
  exact key n 0 [] (by omega) h0

theorem turn_l1 (elt t0 i0 : PySem.Expr) (scope : Scope) (pos : Pos) (it acc : Value) (env : Env) :
    compTurn (.ListComp elt [⟨t0, i0, [], 0⟩] scope pos) 0 it acc env = (standAt i0.pos >>= fun _ => pyNext it >>= fun r => match r with
      | none => pure (.done .next)
      | some v => letOwnedTupleGo t0 it v >>= fun _ => assign t0 env v >>= fun _ =>
        (eval elt env >>= fun x => call (.builtin "list.append") [acc, x] >>= fun _ => pure ()) >>= fun _ =>
          again (.compLoop (.ListComp elt [⟨t0, i0, [], 0⟩] scope pos) 0 it acc env)) := by rfl
end

section
open PyProof.Rows.LCg
variable {w : World} {A : Around} {E : Value → Shared → Prop} {s : Shared} {h₀ : Heap} {L : Addr} {m : Str → Option Value} {env : Env}
theorem dsetD {d : Addr} {news : Led} {g : Obj → Led} {o : Obj} {kv : List (Str × Int)} {k : Str} {v : Int} {t u : Tok} {Q : Unit → Shared → Prop} (F : Fr h₀ L s.heap m) (N : News h₀ L s.heap news) (U : UpdF d o news g) (D : IsD w o kv) (hz : kv.length < 1000)
    (h : ∀ h' o', Fr h₀ L h' m → News h₀ L h' (g o') → IsD w o' (putKV kv k v) → Q () { s with heap := h', toks := s.toks + 1 }) :
    wpAny (model PG w) A (dictSet d (.str k t) (.int v u)) Q E s := by
  obtain ⟨kvs, hd, hf⟩ := D
  obtain ⟨pre, post, rfl, hg, a, b⟩ := U.split
  have hmem : (d, o) ∈ pre ++ (d, o) :: post := List.mem_append.mpr (.inr (.head _))
  have z := N _ hmem
  have hlen : kvs.length = kv.length := by have e := hf.length; unfold encD at e; rw [List.length_map] at e; exact e.symm
  refine wpAny_dictSet_pairs (hsz := by rw [sizeLine_eq]; omega) (strKind_is _ _ k t) (Heap.dictOf_iff.mpr ⟨o, z.1, hd⟩) fun h' hd' hs => ?_
  obtain ⟨o', ho', hd''⟩ := Heap.dictOf_iff.mp hd'
  refine h h' o' (F.change hs z.2.1 z.2.2) ?_ ⟨_, hd'', ?_⟩
  · rw [hg]; exact news_set N a b hs ho'
  · have := hf.stored PyProof.V.same_str k (PyProof.V.Flat.int v u)
    rw [encD_put] at this
    exact this
theorem getI1 {d : Addr} {news : Led} {o : Obj} {kv : List (Int × Int)} {k v : Int} {t : Tok} {Q : Value → Shared → Prop} {value slice : PySem.Expr} (N : News h₀ L s.heap news) (hm : (d, o) ∈ news) (lo : (d == sysModules) = false) (D : IsI w o kv) (hv : getKV kv k = some v)
    (h : ∀ u, Q (.int v u) { s with toks := s.toks + 1 })
    (hs : subscripted slice false (.ref d) (.int k t) = operate [.ref d, .int k t] (getItem (.ref d) (.int k t)) := by with_unfolding_all rfl) : wpAny (model PG w) A (subscriptTail value slice (.ref d) (.int k t)) Q E s := by
  refine tab_tail (tabI N hm lo D) (getItem_tab PyProof.V.same_int (intKind_is _ _ _ _) (tabI N hm lo D) (dv := PyData.int v) ?_ ?_) hs
  · rw [encI_lookup, hv]; rfl
  · intro x hx
    obtain ⟨u, rfl⟩ := hx.int_inv
    exact h _
theorem getKV_some {K : Type} [DecidableEq K] {kv : List (K × Int)} {k : K} {n : Int} (h : (k, n) ∈ kv) : ∃ v, getKV kv k = some v := by
  unfold getKV
  cases e : kv.find? (fun p => decide (p.1 = k)) with
  | some p => exact ⟨p.2, rfl⟩
  | none =>
    have := List.find?_eq_none.mp e _ h
    simp at this

theorem keys_walk {d : Addr} {o : Obj} {kv : List (Int × Int)} {news : Led} (hh : A.handled = none) (N : News h₀ L s.heap news) (hm : (d, o) ∈ news) (lo : (d == sysModules) = false) (D : IsI w o kv) :
    ∃ (St : Nat → Heap → Prop) (I : Addr) (itO : Obj), I = s.heap.objs.size ∧ itO.isFreed = false ∧ (∀ (Q : Value → Shared → Prop), Q (.ref I) { s with heap := s.heap.push itO } → wpAny (model PG w) A (pyIter (.ref d)) Q E s) ∧
      Walks PG w A I [I, d] [I] kv.length (fun i v => ∃ k n t, kv[i]? = some (k, n) ∧ v = .int k t) St ∧ (∀ i h, St i h → ∃ o, h.get? I = some o) ∧
      (∀ i h h' oi, St i h → h.get? I = some oi → h'.get? I = some oi → h'.get? d = some o → St i h') ∧ (∀ h', h'.get? I = some itO → h'.get? d = some o → St 0 h') := by
  obtain ⟨kvs, hd, hf⟩ := D
  have hg := (N _ hm).1
  have hdo : s.heap.DictOf (intKind PG w) d kvs := Heap.dictOf_iff.mpr ⟨o, hg, hd⟩
  obtain ⟨ep, hat⟩ := hdo.dictAt
  have hlen : kvs.length = kv.length := by have e := hf.length; unfold encI at e; rw [List.length_map] at e; exact e.symm
  have hne : d ≠ s.heap.objs.size := Nat.ne_of_lt hat.lt_size
  have W : Walks PG w A s.heap.objs.size [s.heap.objs.size, d] [s.heap.objs.size] kvs.length _ _ := Walks.dictKeys (knd := intKind PG w) hh s.heap.objs.size d hne kvs ep
  refine ⟨fun i h => h.IsKeyIter s.heap.objs.size d i kvs.length ep ∧ h.get? d = some o, s.heap.objs.size, { cls := .type "dict_keyiterator", data := .fields #[.ref d, .int 0 0, .int kvs.length 0, .int ep 0] }, rfl, rfl, fun Q hQ => wpAny_pyIter_dict lo hat hQ, ?_, ?_, ?_, ?_⟩
  · have dat : ∀ h : Heap, h.get? d = some o → h.DictAt (intKind PG w) d kvs ep := fun h e => hat.at' fun o' e' => by rw [hg] at e'; cases e'; exact e
    rw [← hlen]
    exact
    { sub := W.sub
      frame := fun i h h' st hk => ⟨st.1.at fun o e => hk _ (by simp) o e, hk d (by simp) _ st.2⟩
      item := fun i s Q E hi st hQ => by
        refine W.item i s Q E hi ⟨st.1, dat _ st.2⟩ fun v h' tk hP hst hk => ?_
        obtain ⟨k, x, hx, hkk⟩ := hP
        obtain ⟨dv, hD, hfl⟩ := hf.at hx
        have e1 : (kv.map fun p => (PyData.int p.1, PyData.int p.2))[i]? = some (PyData.int k, dv) := hD
        rw [List.getElem?_map] at e1
        obtain ⟨t, rfl⟩ : ∃ t, v = .int k t := Value.isInt_shape hkk
        cases e2 : kv[i]? with
        | none => rw [e2] at e1; cases e1
        | some p =>
          rw [e2] at e1
          obtain ⟨a, b⟩ := p
          injection e1 with e1
          injection e1 with e3 e4
          injection e3 with e3
          subst e3
          exact hQ _ h' tk ⟨a, b, t, e2, rfl⟩ ⟨hst.1, hk d _ (by simpa using hne) st.2⟩ hk
      done := fun s Q E st hQ => W.done s Q E ⟨st.1, dat _ st.2⟩ hQ
      self := fun i s Q E st hQ => W.self i s Q E ⟨st.1, dat _ st.2⟩ hQ }
  · rintro i h ⟨⟨oi, e, _⟩, _⟩; exact ⟨oi, e⟩
  · rintro i h h' oi ⟨⟨o1, e1, r⟩, _⟩ e e' ed
    rw [e] at e1; cases e1
    exact ⟨⟨_, e', r⟩, ed⟩
  · intro h' e ed
    exact ⟨⟨_, e, rfl, rfl⟩, ed⟩
end
section
open PyProof.Rows.LCg
variable {w : World} {A : Around} {E : Value → Shared → Prop} {s : Shared} {h₀ : Heap} {m : Str → Option Value} {env : Env}

theorem lc_keys {elt : PySem.Expr} {x z : Str} {px pz pos : Pos} {scope : Scope} {cl : List (Str × Addr)} {Q : Value → Shared → Prop} {d : Addr} {od : Obj} {kv : List (Int × Int)} {more : Led} (Inv : Nat → List Value → Prop)
    (hh : A.handled = none) (hclos : closureFor scope env = pure cl) (hcell : ∀ y ∈ scope.names, y.2 ≠ .cell) (hkind : scope.kind = .function)
    (hnames : ∀ y ∈ scope.names, y.2 = .local → scope.names.lookup y.1 = some .local) (hx : scope.names.lookup x = some .local)
    (F : Fr h₀ env.locals s.heap m) (N : News h₀ env.locals s.heap more) (hm : (d, od) ∈ more) (lo : (d == sysModules) = false) (DI : IsI w od kv) (h0 : Inv 0 [])
    (hev : ∀ (Q : Value → Shared → Prop), Q (.ref d) s → wpAny (model PG w) A (eval (.Name z pz) env) Q E s)
    (helt : ∀ (i : Nat) (k n : Int) t ys e I oI C oC m₂ D h tk (Q E' : Value → Shared → Prop), kv[i]? = some (k, n) → Inv i ys → NsObj oC m₂ → m₂ x = some (.int k t) → Fr h₀ env.locals h m → News h₀ env.locals h ((I, oI) :: (C, oC) :: (D, listOf ys.toArray e) :: more) →
      (∀ y h' tk', Fr h₀ env.locals h' m → News h₀ env.locals h' ((I, oI) :: (C, oC) :: (D, listOf ys.toArray e) :: more) → Inv (i + 1) (ys ++ [y]) → Q y { s with heap := h', toks := tk' }) →
      wpAny (model PG w) A (eval elt (compEnvC scope cl C env)) Q E' { s with heap := h, toks := tk })
    (hlen : ∀ i ys, Inv i ys → ys.length ≤ 1000)
    (fin : ∀ D ys e h tk, Inv kv.length ys → Fr h₀ env.locals h m → News h₀ env.locals h ((D, listOf ys.toArray e) :: more) → (∀ p ∈ more, p.1 < D) → Q (.ref D) { s with heap := h, toks := tk })
    (hs : ∀ x, foldedSetIterable (.Name z pz) env x = pure x := by intro _; rfl) :
    wpAny (model PG w) A (eval (.ListComp elt [⟨.Name x px, .Name z pz, [], 0⟩] scope pos) env) Q E s := by
  rw [eval_ListComp]
  refine wpAny_comprehension_free (use := none) rfl hs hclos hkind hnames (hev _ ?_)
  obtain ⟨St, I, itO, hI, hfr, hpy, W, hIo, hSt, hst0⟩ := keys_walk (E := E) hh N hm lo DI
  refine hpy _ ?_
  have hd := N _ hm
  have hlt : d < s.heap.objs.size := Heap.lt_size hd.1
  have up : ∀ b o, s.heap.get? b = some o → (s.heap.push itO).get? b = some o := fun b o e => Heap.get?_push_of_some _ e
  have hI₀ : h₀.get? I = none := hI ▸ next_is_new F
  have F1 : Fr h₀ env.locals (s.heap.push itO) m := F.keeps up
  have N1 := N.grown up
  have hIit : (s.heap.push itO).get? I = some itO := hI ▸ Heap.get?_push_size _ hfr
  refine comp_begin (oA := listOf #[] 0) (fun Q hq => wpAny_newList hq) rfl hcell hkind F1 N1 ?_
  intro D C h2 tk2 F2 N2 hns2 keep2 hD hC hC₀ hCL
  have hsz1 : (s.heap.push itO).objs.size = s.heap.objs.size + 1 := Heap.size_push ..
  rw [show ({ s with heap := s.heap.push itO } : Shared).heap.objs.size = s.heap.objs.size + 1 from hsz1] at hD hC
  have hmore : ∀ p ∈ more, p.1 < s.heap.objs.size := fun p hp => Heap.lt_size (N p hp).1
  have hCI : I ≠ C := by rw [hC, hI]; exact Nat.ne_of_lt (Nat.lt_succ_of_lt (Nat.lt_succ_self _))
  have hCf : C ∉ [I, d] := by
    intro hmem
    rcases List.mem_cons.mp hmem with e | e
    · exact hCI e.symm
    · rw [List.mem_singleton.mp e] at hC; rw [hC] at hlt; exact absurd hlt (Nat.not_lt.mpr (Nat.le_succ_of_le (Nat.le_succ _)))
  have hst : St 0 h2 := hst0 _ (keep2 _ _ hIit) (keep2 _ _ (up _ _ hd.1))
  have hmI : ∀ p ∈ more, p.1 ≠ I ∧ p.1 ≠ C := fun p hp => by
    have := hmore p hp
    constructor
    · rw [hI]; exact Nat.ne_of_lt this
    · rw [hC]; exact Nat.ne_of_lt (Nat.lt_succ_of_lt (Nat.lt_succ_of_lt this))
  have hDm : ∀ p ∈ more, p.1 < D := fun p hp => by rw [hD]; exact Nat.lt_succ_of_lt (hmore p hp)
  have hDI : D ≠ I := by rw [hD, hI]; exact Nat.ne_of_gt (Nat.lt_succ_self _)
  have hDC : D ≠ C := by rw [hD, hC]; exact Nat.ne_of_lt (Nat.lt_succ_self _)
  have key : codeAny (model PG w) A (.compLoop (.ListComp elt [⟨.Name x px, .Name z pz, [], 0⟩] scope pos) 0 (.ref I) (.ref D) (compEnvC scope cl C env)) (compPost (model PG w) A E none Q (.ref D) C) { s with heap := h2, toks := tk2 } := by
    refine comp_walk (σ := List Value × Nat) rfl rfl (turn_l1 _ _ _ _ _ _ _ _) W (fun c => (D, listOf c.1.toArray c.2) :: more) (fun i c => Inv i c.1) (fun _ => True) ([], 0)
      hIo (fun i c h h' o st e e' N' k' => hSt i h h' o st e e' (N' _ (List.mem_cons_of_mem _ hm)).1)
      hCf (by rw [hI]; exact Nat.ne_of_lt F.ns.lt) hI₀ hCL hC₀ hCI (fun c => List.forall_mem_cons.mpr ⟨⟨hDI, hDC⟩, hmI⟩) (fun _ _ _ => trivial) rfl (lookup_relabel_local hx) (by show (scope.kind == .class || (scope.kind == .module && _)) = false; rw [hkind]; rfl) hst F2 hns2 trivial N2 h0 ?_ ?_
    · rintro i v ⟨ys, e⟩ oI oC m₂ h tk E' hi ⟨k, n, t, hk, rfl⟩ hPP hoC hm₂ _ F3 N3
      refine wpAny_bind (helt i k n t ys e I oI C oC m₂ D h tk _ _ hk hPP hoC hm₂ F3 N3 ?_)
      intro y h4 tk4 F4 N4 hI4
      refine wpAny_bind (append_K F4 N4 (x := y) (its := ys.toArray) (n := e) (news' := (I, oI) :: (C, oC) :: (D, listOf (ys.toArray.push y) (e + 1)) :: more) (.tail (Ne.symm hDI) (.tail (Ne.symm hDC) (.head fun p hp => Nat.ne_of_lt (hDm p hp)))) ?_ (by have := hlen i ys hPP; rw [List.size_toArray, sizeLine_eq]; omega))
      intro h5 F5 N5
      refine wpAny_pure ⟨(ys ++ [y], e + 1), oC, m₂, h5, _, rfl, F5, ?_, hoC, trivial, hI4⟩
      rw [List.push_toArray] at N5
      exact N5
    · rintro ⟨ys, e⟩ oC m₂ h tk hPP hoC _ F3 N3
      refine comp_post F3 N3 hoC hCL hC₀ (List.forall_mem_cons.mpr ⟨hDC, fun p hp => (hmI p hp).2⟩) ?_
      intro h' F4 N4
      exact fin D ys e h' _ hPP F4 N4 hDm
  exact codeAny_compStart_list key (W.self 0 _ _ _ hst key)

def foldD (kf : Int → Str) (vf : Int → Int) (ks : List Int) : List (Str × Int) := ks.foldl (fun acc k => putKV acc (kf k) (vf k)) []
theorem foldD_len (kf : Int → Str) (vf : Int → Int) (ks : List Int) : (foldD kf vf ks).length ≤ ks.length := by
  have key : ∀ (ks : List Int) (acc : List (Str × Int)), (ks.foldl (fun acc k => putKV acc (kf k) (vf k)) acc).length ≤ acc.length + ks.length := by
    intro ks
    induction ks with
    | nil => intro acc; simp
    | cons k r ih =>
      intro acc
      have := ih (putKV acc (kf k) (vf k))
      have h2 := putKV_length acc (kf k) (vf k)
      simp only [List.foldl_cons, List.length_cons]
      omega
  have := key ks []
  simpa [foldD] using this

theorem dc_keys {ke ve : PySem.Expr} {x y z : Str} {px py pz pos spos : Pos} {scope : Scope} {cl : List (Str × Addr)} {Q : Flow → Shared → Prop} {d : Addr} {od : Obj} {kv : List (Int × Int)} {more : Led} (kf : Int → Str) (vf : Int → Int)
    (hh : A.handled = none)
    (hsw : swapsWith (.DictComp ke ve [⟨.Name x px, .Name z pz, [], 0⟩] scope pos) (some (.Name y py)) spos.line env = pure true)
    (hclos : closureFor scope env = pure cl) (hcell : ∀ y ∈ scope.names, y.2 ≠ .cell) (hkind : scope.kind = .function)
    (hnames : ∀ y ∈ scope.names, y.2 = .local → scope.names.lookup y.1 = some .local) (hx : scope.names.lookup x = some .local)
    (hy : env.kindOf y = some .local) (hp : (env.scope.kind == .class || (env.scope.kind == .module && env.locals != env.globals)) = false)
    (F : Fr h₀ env.locals s.heap m) (N : News h₀ env.locals s.heap more) (hm : (d, od) ∈ more) (lo : (d == sysModules) = false) (hbig : h₀.NoLimit) (DI : IsI w od kv) (hz : kv.length < 1000)
    (hev : ∀ (Q : Value → Shared → Prop), Q (.ref d) s → wpAny (model PG w) A (eval (.Name z pz) env) Q E s)
    (hkey : ∀ (i : Nat) (k n : Int) t I oI C oC m₂ D oD h tk (Q E' : Value → Shared → Prop), kv[i]? = some (k, n) → NsObj oC m₂ → m₂ x = some (.int k t) → Fr h₀ env.locals h m → News h₀ env.locals h ((I, oI) :: (C, oC) :: (D, oD) :: more) →
      (∀ t' h' tk', Fr h₀ env.locals h' m → News h₀ env.locals h' ((I, oI) :: (C, oC) :: (D, oD) :: more) → Q (.str (kf k) t') { s with heap := h', toks := tk' }) →
      wpAny (model PG w) A (eval ke (compEnvC scope cl C env)) Q E' { s with heap := h, toks := tk })
    (hval : ∀ (i : Nat) (k n : Int) t I oI C oC m₂ D oD h tk (Q E' : Value → Shared → Prop), kv[i]? = some (k, n) → NsObj oC m₂ → m₂ x = some (.int k t) → Fr h₀ env.locals h m → News h₀ env.locals h ((I, oI) :: (C, oC) :: (D, oD) :: more) →
      (∀ t' h' tk', Fr h₀ env.locals h' m → News h₀ env.locals h' ((I, oI) :: (C, oC) :: (D, oD) :: more) → Q (.int (vf k) t') { s with heap := h', toks := tk' }) →
      wpAny (model PG w) A (eval ve (compEnvC scope cl C env)) Q E' { s with heap := h, toks := tk })
    (fin : ∀ D oD h tk, IsD w oD (foldD kf vf (kv.map (·.1))) → (D == sysModules) = false → Fr h₀ env.locals h (fun q => if q = y then some (.ref D) else m q) → News h₀ env.locals h ((D, oD) :: more) → (∀ p ∈ more, p.1 < D) → Q .next { s with heap := h, toks := tk })
    (hs : ∀ x, foldedSetIterable (.Name z pz) env x = pure x := by intro _; rfl) :
    wpAny (model PG w) A (exec (.Assign [.Name y py] (.DictComp ke ve [⟨.Name x px, .Name z pz, [], 0⟩] scope pos) spos) env) Q E s := by
  rw [exec_Assign_Name_used _ _ _ _ hsw]
  refine wpAny_bind (wpAny_standAt (wpAny_bind ?_))
  show wpAny _ A (do let _ ← comprehension (.DictComp ke ve [⟨.Name x px, .Name z pz, [], 0⟩] scope pos) scope env _ newDict false (eval (.Name z pz) env) (some (assign (.Name y py) env))) _ _ s
  refine wpAny_bind (wpAny_mono (wpAny_comprehension_free (use := some (assign (.Name y py) env)) (Q := fun _ s' => Q .next s') rfl hs hclos hkind hnames
    (hev _ ?_)) (fun _ s' hq => wpAny_pure (wpAny_pure hq)) fun _ _ e => e)
  obtain ⟨St, I, itO, hI, hfr, hpy, W, hIo, hSt, hst0⟩ := keys_walk (E := E) hh N hm lo DI
  refine hpy _ ?_
  have hd := N _ hm
  have hlt : d < s.heap.objs.size := Heap.lt_size hd.1
  have up : ∀ b o, s.heap.get? b = some o → (s.heap.push itO).get? b = some o := fun b o e => Heap.get?_push_of_some _ e
  have hI₀ : h₀.get? I = none := hI ▸ next_is_new F
  have F1 : Fr h₀ env.locals (s.heap.push itO) m := F.keeps up
  have N1 := N.grown up
  have hIit : (s.heap.push itO).get? I = some itO := hI ▸ Heap.get?_push_size _ hfr
  have hoA : IsD w ({ cls := .type "dict", dict := none, data := .dict #[] } : Obj) [] := by
    obtain ⟨o, ho, hd⟩ := Heap.dictOf_iff.mp (Heap.DictOf.new (knd := strKind PG w) s.heap)
    rw [Heap.get?_push_size _ rfl] at ho
    exact ⟨[], (Option.some.inj ho) ▸ hd, .nil⟩
  refine comp_begin (oA := { cls := .type "dict", dict := none, data := .dict #[] }) (fun Q hq => wpAny_newObj_type hq) rfl hcell hkind F1 N1 ?_
  intro D C h2 tk2 F2 N2 hns2 keep2 hD hC hC₀ hCL
  have hsz1 : (s.heap.push itO).objs.size = s.heap.objs.size + 1 := Heap.size_push ..
  have loD : (D == sysModules) = false := by
    rw [hD]
    exact F1.notModules (modules_low hbig)
  rw [show ({ s with heap := s.heap.push itO } : Shared).heap.objs.size = s.heap.objs.size + 1 from hsz1] at hD hC
  have hmore : ∀ p ∈ more, p.1 < s.heap.objs.size := fun p hp => Heap.lt_size (N p hp).1
  have hCI : I ≠ C := by rw [hC, hI]; exact Nat.ne_of_lt (Nat.lt_succ_of_lt (Nat.lt_succ_self _))
  have hCf : C ∉ [I, d] := by
    intro hmem
    rcases List.mem_cons.mp hmem with e | e
    · exact hCI e.symm
    · rw [List.mem_singleton.mp e] at hC; rw [hC] at hlt; exact absurd hlt (Nat.not_lt.mpr (Nat.le_succ_of_le (Nat.le_succ _)))
  have hst : St 0 h2 := hst0 _ (keep2 _ _ hIit) (keep2 _ _ (up _ _ hd.1))
  have hmI : ∀ p ∈ more, p.1 ≠ I ∧ p.1 ≠ C := fun p hp => by
    have := hmore p hp
    constructor
    · rw [hI]; exact Nat.ne_of_lt this
    · rw [hC]; exact Nat.ne_of_lt (Nat.lt_succ_of_lt (Nat.lt_succ_of_lt this))
  have hDm : ∀ p ∈ more, p.1 < D := fun p hp => by rw [hD]; exact Nat.lt_succ_of_lt (hmore p hp)
  have hDI : D ≠ I := by rw [hD, hI]; exact Nat.ne_of_gt (Nat.lt_succ_self _)
  have hDC : D ≠ C := by rw [hD, hC]; exact Nat.ne_of_lt (Nat.lt_succ_self _)
  have key : codeAny (model PG w) A (.compLoop (.DictComp ke ve [⟨.Name x px, .Name z pz, [], 0⟩] scope pos) 0 (.ref I) (.ref D) (compEnvC scope cl C env)) (compPost (model PG w) A E (some (assign (.Name y py) env)) (fun _ s' => Q .next s') (.ref D) C) { s with heap := h2, toks := tk2 } := by
    refine comp_walk (σ := Obj) rfl rfl (turn_dict _ _ _ _ _ _ _ _ _) W (fun c => (D, c) :: more) (fun i c => IsD w c (foldD kf vf ((kv.map (·.1)).take i))) (fun _ => True) _
      hIo (fun i c h h' o st e e' N' k' => hSt i h h' o st e e' (N' _ (List.mem_cons_of_mem _ hm)).1)
      hCf (by rw [hI]; exact Nat.ne_of_lt F.ns.lt) hI₀ hCL hC₀ hCI (fun c => List.forall_mem_cons.mpr ⟨⟨hDI, hDC⟩, hmI⟩) (fun _ _ _ => trivial) rfl (lookup_relabel_local hx) (by show (scope.kind == .class || (scope.kind == .module && _)) = false; rw [hkind]; rfl) hst F2 hns2 trivial N2 hoA ?_ ?_
    · rintro i v c oI oC m₂ h tk E' hi ⟨k, n, t, hk, rfl⟩ hPP hoC hm₂ _ F3 N3
      refine wpAny_bind (hkey i k n t I oI C oC m₂ D c h tk _ _ hk hoC hm₂ F3 N3 ?_)
      intro t4 h4 tk4 F4 N4
      refine wpAny_bind (wpAny_holding (hval i k n t I oI C oC m₂ D c h4 tk4 _ _ hk hoC hm₂ F4 N4 ?_))
      intro t5 h5 tk5 F5 N5
      refine wpAny_bind (wpAny_standAt (wpAny_holding (dsetD (g := fun o => (I, oI) :: (C, oC) :: (D, o) :: more) F5 N5 (UpdF.tail (Ne.symm hDI) (UpdF.tail (Ne.symm hDC) (UpdF.head fun p hp => Nat.ne_of_lt (hDm p hp)))) hPP ?_ ?_)))
      · have := foldD_len kf vf ((kv.map (·.1)).take i)
        rw [List.length_take, List.length_map] at this
        omega
      · intro h6 o6 F6 N6 D6
        refine ⟨o6, oC, m₂, h6, _, rfl, F6, N6, hoC, trivial, ?_⟩
        have e1 : (kv.map (·.1))[i]? = some k := by rw [List.getElem?_map, hk]; rfl
        show IsD w o6 (foldD kf vf ((kv.map (·.1)).take (i + 1)))
        rw [List.take_add_one, e1]
        unfold foldD at D6 ⊢
        rw [List.foldl_append]
        exact D6
    · intro c oC m₂ h tk hPP hoC _ F3 N3
      refine comp_postA rfl F3 N3 hoC hCL hC₀ (List.forall_mem_cons.mpr ⟨hDC, fun p hp => (hmI p hp).2⟩) hy hp ?_
      intro h' tk' F4 N4
      refine fin D c h' tk' ?_ loD F4 N4 hDm
      rw [List.take_of_length_le (by rw [List.length_map]; exact Nat.le_refl _)] at hPP
      exact hPP
  exact codeAny_compStart_dict key (W.self 0 _ _ _ hst key)
end
section
open PySem.SeqAt
variable {w : World} {A : Around} {E : Value → Shared → Prop} {s : Shared} {h₀ : Heap} {L : Addr} {m : Str → Option Value} {news : Led}
theorem lks_nums_are : ∀ {vs : List Value} {ns : List Int}, IntsAre vs ns → lks_nums vs = ns
  | _, _, .nil => rfl
  | _, _, .cons a _ r => congrArg (a :: ·) (lks_nums_are r)
theorem kf_ints_are : ∀ {vs : List Value} {ns : List Int}, IntsAre vs ns → kf_ints vs = true
  | _, _, .nil => rfl
  | _, _, .cons _ _ r => (kf_ints_are r : kf_ints _ = true)
theorem lks_vals_are : ∀ (q : List Int) (i : Nat) (t : Nat → Tok), IntsAre (lks_vals q i t) q
  | [], _, _ => .nil
  | a :: r, i, t => .cons a _ (lks_vals_are r (i + 1) t)
theorem keys_are {kvs : List (Int × Value)} : ∀ {vs : List Value}, vs.length = kvs.length → (∀ (j : Nat) (u : Value), vs[j]? = some u → ∃ k x, kvs[j]? = some (k, x) ∧ (intKind PG w).is k u = true) → IntsAre vs (kvs.map (·.1)) := by
  induction kvs with
  | nil =>
    intro vs hl _
    obtain rfl : vs = [] := List.eq_nil_of_length_eq_zero hl
    exact .nil
  | cons p r ih =>
    intro vs hl hv
    cases vs with
    | nil => cases hl
    | cons v vs =>
      obtain ⟨k, x, e, hk⟩ := hv 0 v rfl
      have e' : p = (k, x) := Option.some.inj e
      subst e'
      obtain ⟨t, rfl⟩ : ∃ t, v = .int k t := Value.isInt_shape hk
      refine .cons k t (ih (by simpa using hl) fun j u hu => ?_)
      simpa using hv (j + 1) u (by simpa using hu)
theorem sortedB {d : Addr} {o : Obj} {kvs : List (Int × Value)} {q : List Int} {Q : Value → Shared → Prop} (hh : A.handled = none) (F : Fr h₀ L s.heap m) (N : News h₀ L s.heap news) (hm : (d, o) ∈ news) (lo : (d == sysModules) = false) (D : o.IsDictOf (intKind PG w) kvs)
    (hq : ((kvs.map (·.1)).isPerm q && lks_asc q) = true) (hne : 0 < kvs.length) (h64 : kvs.length < 64)
    (h : ∀ (B : Addr) (vs : List Value) (n : Nat) h' tk, Fr h₀ L h' m → News h₀ L h' ((B, listOf vs.toArray n) :: news) → (∀ p ∈ news, p.1 < B) → IntsAre vs q → Q (.ref B) { s with heap := h', toks := tk }) :
    wpAny (model PG w) A (call (.builtin "sorted") [.ref d]) Q E s := by
  have hdo : s.heap.DictOf (intKind PG w) d kvs := Heap.dictOf_iff.mpr ⟨o, (N _ hm).1, D⟩
  obtain ⟨ep, hat⟩ := hdo.dictAt
  refine kdu_sorted (kdl_dict (knd := intKind PG w) (kvs := kvs) (ep := ep) lo) hh F N hat (kdl_size (by omega)) fun B h' tk vs F' N' l1 hl hv => ?_
  have hI := keys_are (w := w) hl hv
  refine lks_sort (q := q) (its := vs.toArray) (n := 0) (news' := fun t => (B, listOf (lks_vals q 0 t).toArray 2) :: news) F' N' (fun t => .head fun p hp => Nat.ne_of_lt (l1 p hp)) (by simpa using kf_ints_are hI) ?_ ?_ ?_ ?_
  · show ((lks_nums vs.toArray.toList).isPerm q && lks_asc q) = true
    rw [show vs.toArray.toList = vs from rfl, lks_nums_are hI]
    exact hq
  · cases vs with
    | nil => rw [← hl] at hne; exact absurd hne (by simp)
    | cons => rfl
  · show vs.length < 64
    rw [hl]; exact h64
  · intro t h'' F'' N''
    exact h B _ 2 h'' _ F'' N'' l1 (lks_vals_are q 0 t)

def sameKV (kv1 kv2 : List (Str × Int)) : Bool := decide (kv1.length = kv2.length) && kv1.all fun p => decide (getKV kv2 p.1 = some p.2)
theorem rowsKV (kv2 : List (Str × Int)) : ∀ kv1 : List (Str × Int), (kv1.all fun p => decide (getKV kv2 p.1 = some p.2)) = true → KeqRows (encD kv2) (encD kv1) true
  | [], _ => .nil
  | (k, v) :: r, h => by
    rw [List.all_cons, Bool.and_eq_true] at h
    have e : getKV kv2 k = some v := of_decide_eq_true h.1
    have := KeqRows.hit (Db := encD kv2) (k := PyData.str k) (v := PyData.int v) (u := PyData.int v) (by rw [encD_lookup, e]; rfl) (rowsKV kv2 r h.2)
    rw [show (PyData.eqv (PyData.int v) (PyData.int v) && true) = true from by simp [PyData.eqv]] at this
    exact this
theorem eqD {a b : Addr} {oa ob : Obj} {ka kb : List (Str × Int)} (N : News h₀ L s.heap news) (ha : (a, oa) ∈ news) (hb : (b, ob) ∈ news) (la : (a == sysModules) = false) (lb : (b == sysModules) = false) (Da : IsD w oa ka) (Db : IsD w ob kb) (hu : A.units < cLine) (hne : a ≠ b) (hs : sameKV ka kb = true)
    (E : Value → Shared → Prop) (Q : Bool → Shared → Prop) (h : Q true s) : wpAny (model PG w) A (eqBool (.ref a) (.ref b)) Q E s := by
  unfold sameKV at hs
  rw [Bool.and_eq_true] at hs
  have hl : (encD ka).length = (encD kb).length := by unfold encD; rw [List.length_map, List.length_map]; exact of_decide_eq_true hs.1
  unfold eqBool
  refine wpAny_holding ?_
  refine wpAny_ite_split (fun hab => absurd (by have := eq_of_beq hab; injection this) hne) (fun _ => ?_)
  refine wpAny_bind ?_
  show wpAny _ A (compareOp .Eq (.ref a) (.ref b)) _ _ s
  exact keq_tabs PyProof.V.same_str (tabD N ha la Da) (tabD N hb lb Db) hl hu (rowsKV kb ka hs.2) (wpAny_truthy_bool h)

/-- two tuples whose items are found equal, pair by pair: != says False -/
theorem tup_ne {prog : Program} {l b : Addr} {xs ys : List Value} {Q : Value → Shared → Prop} (hl : s.heap.get? l = some { cls := .type "tuple", data := .seq xs.toArray }) (hb : s.heap.get? b = some { cls := .type "tuple", data := .seq ys.toArray }) (hsz : xs.length = ys.length) (hu : A.units < cLine)
    (he : ∀ y x, (y, x) ∈ xs.zip ys → ∀ (E : Value → Shared → Prop) (Q : Bool → Shared → Prop), Q true s → wpAny (model prog w) A.in1 (eqBool y x) Q E s) (h : Q (.bool false) s) :
    wpAny (model prog w) A (compareOp .NotEq (.ref l) (.ref b)) Q E s := by
  show wpAny _ A (richCompare .NotEq (.ref l) (.ref b)) Q E s
  refine wpAny_richCompare_same_room (op := .NotEq) ⟨_, hl, rfl⟩ ⟨_, hb, rfl⟩ PySem.F.slot_tuple_ne (wpAny_call_entry PySem.F.slot_tuple_ne ⟨_, hl, rfl⟩ PySem.F.entry_tuple_ne ?_ (PySem.F.args_tuple_ne_2 _ _)) hu
  obtain ⟨hp, g, d, tk, os⟩ := s
  have f2 := AutoSeq1.sub_tuple_tuple
  wp_walk using AutoSeq1.wpAny_loadPart' hl, AutoSeq1.wpAny_loadPart' hb, wpAny_forIn_list _ (fun rest b s' => b.1 = none ∧ s' = ⟨hp, g, d, tk, os⟩ ∧ ∀ p ∈ rest, p ∈ xs.zip ys) _
  case turn =>
    rintro ⟨y, x⟩ rest b s' ⟨_, rfl, hin⟩
    refine wpAny_bind (he y x (hin _ List.mem_cons_self) _ _ ?_)
    wp_walk
    exact ⟨rfl, rfl, fun p hp => hin p (List.mem_cons_of_mem _ hp)⟩
  case fin =>
    rintro ⟨b1, b2⟩ s' ⟨hb', rfl, _⟩
    simp only at hb'
    subst hb'
    wp_walk
    refine ⟨_, rfl, ?_⟩
    constructor
    · exact fun e => nomatch e
    · simpa [Builtin.Tuple.tupleCompareSizes, bne, hsz] using h
  case h =>
    exact ⟨rfl, rfl, fun p hp => by simpa using hp⟩
theorem neE {t1 t2 d1 d2 : Addr} {o1 o2 : Obj} {kv1 kv2 : List (Str × Int)} {a b c e : Int} {ta tb tc te ta' tb' tc' te' : Tok} {Q : Value → Shared → Prop} (N : News h₀ L s.heap news)
    (h1 : (t1, tup5 a b c e ta tb tc te d1) ∈ news) (h2 : (t2, tup5 a b c e ta' tb' tc' te' d2) ∈ news) (hd1 : (d1, o1) ∈ news) (hd2 : (d2, o2) ∈ news) (lo1 : (d1 == sysModules) = false) (lo2 : (d2 == sysModules) = false)
    (D1 : IsD w o1 kv1) (D2 : IsD w o2 kv2) (hs : sameKV kv1 kv2 = true) (hne : d1 ≠ d2) (hu : A.units + 64 < cLine) (h : Q (.bool false) s) :
    wpAny (model PG w) A (compareOp .NotEq (.ref t1) (.ref t2)) Q E s := by
  refine tup_ne (xs := [.int a ta, .int b tb, .int c tc, .int e te, .ref d1]) (ys := [.int a ta', .int b tb', .int c tc', .int e te', .ref d2]) (N _ h1).1 (N _ h2).1 rfl (by omega) ?_ h
  have hi : ∀ (n : Int) (t u : Tok) (E : Value → Shared → Prop) (Q : Bool → Shared → Prop), Q true s → wpAny (model PG w) A.in1 (eqBool (.int n t) (.int n u)) Q E s := fun n t u E Q hq => EqAt.int_int n t n u PG w E Q (by rw [beq_self_eq_true]; exact hq)
  intro y x hm
  simp only [List.zip_cons_cons, List.zip_nil_right, List.mem_cons, List.not_mem_nil, or_false, Prod.mk.injEq] at hm
  rcases hm with ⟨rfl, rfl⟩ | ⟨rfl, rfl⟩ | ⟨rfl, rfl⟩ | ⟨rfl, rfl⟩ | ⟨rfl, rfl⟩
  · exact hi _ _ _
  · exact hi _ _ _
  · exact hi _ _ _
  · exact hi _ _ _
  · exact fun E Q hq => eqD N hd1 hd2 lo1 lo2 D1 D2 (by have := units_in1 A; omega) hne hs E Q hq
end
section
variable {prog : Program} {w : World} {A : Around} {E : Value → Shared → Prop} {s : Shared} {env : Env} {h₀ : Heap} {y : Str} {py : Pos} {body : List Stmt} {Q : Flow → Shared → Prop}
theorem iter_rangeTurns {r : Addr} {a₀ b₀ : Int} {t₀ u₀ v₀ : Tok} {n : Nat} {m₀ : Str → Option Value} {news : Led}
    (hh : A.handled = none) (hr : IsRange s.heap r a₀ b₀ 1 t₀ u₀ v₀) (hsmall : Builtin.Range.small a₀ b₀ 1 = true) (hn : Builtin.Range.rangeSize a₀ b₀ 1 = (n : Int)) (F : Fr h₀ env.locals s.heap m₀) (N : News h₀ env.locals s.heap news)
    (rest₀ : ∀ I : Addr, (∀ p ∈ news, p.1 < I) → ItemsRest prog w A E h₀ env (.Name y py) body Q s [(I, "range_iterator")] [] ((List.range n).map (fun i => Itm.tok (fun u => .int (a₀ + ((i : Nat) : Int)) u))) m₀ news) :
    wpAny (model prog w) A (pyIter (.ref r)) (fun it s₂ => TurnsAt prog w A h₀ env (.Name y py) body Q E it s₂) E s := by
  have hnew := next_is_new F
  refine wpAny_pyIter_range hr hsmall ?_
  refine ktu_core (tk0 := s.toks) (keep := []) (KTurns.ofWalks ((LCg.range_walks (I := s.heap.objs.size) hh a₀ n).bound) fun i v s Q E st q => by show wpAny _ _ (pure ()) _ _ _; exact wpAny_pure q) (by simp) ?_ ?_ ?_ (fun b hb => by simpa using hb) ?_ ?_ ?_ ?_ (F.push _) (fun p hp => ⟨Heap.get?_push_of_some _ (N p hp).1, (N p hp).2⟩) trivial (rest₀ _ fun p hp => Heap.lt_size (N p hp).1)
  · rintro i v h ⟨hi, t, rfl⟩
    exact ⟨.tok (fun u => .int (a₀ + ((i : Nat) : Int)) u), by rw [List.getElem?_map, List.getElem?_range hi]; rfl, ⟨t, rfl⟩⟩
  · rintro i h hit
    have hit' : h.get? s.heap.objs.size = some _ := hit
    exact ⟨[(s.heap.objs.size, _)], ⟨⟨rfl, rfl⟩, trivial⟩, fun p hp => by rw [List.mem_singleton.mp hp]; exact hit'⟩
  · intro b hb
    have hb' : b = s.heap.objs.size := by simpa using hb
    rw [hb']
    exact ⟨List.mem_cons_self .., hnew⟩
  · intro b hb
    exact Or.inl (by simpa using hb)
  · intro hL
    have hL' : env.locals = s.heap.objs.size := by simpa using hL
    exact absurd F.ns.lt (by rw [hL']; exact Nat.lt_irrefl _)
  · intro p hp hI
    have hI' : p.1 = s.heap.objs.size := by simpa using hI
    exact absurd (Heap.lt_size (N p hp).1) (by rw [hI']; exact Nat.lt_irrefl _)
  · show IsRangeIter _ _ _ _ _
    rw [hn]
    simpa using Heap.get?_push_size _ rfl

def JoinI (h₀ : Heap) (L : Addr) (s : Shared) (m : Str → Option Value) (x : Str) (n : Int) (news : Led) (fl : Flow) (s' : Shared) : Prop :=
  fl = .next ∧ ∃ t h' tk', s' = { s with heap := h', toks := tk' } ∧ Fr h₀ L h' (fun y => if y = x then some (.int n t) else m y) ∧ News h₀ L h' news
theorem join_int {L : Addr} {m : Str → Option Value} {tr : Sem Flow} (x : Str) (n : Int) (news : Led) (_F : Fr h₀ L s.heap m)
    (h1 : wpAny (model prog w) A tr (JoinI h₀ L s m x n news) E s)
    (h2 : ∀ t h' tk', Fr h₀ L h' (fun y => if y = x then some (.int n t) else m y) → News h₀ L h' news → Q .next { s with heap := h', toks := tk' }) : wpAny (model prog w) A tr Q E s := by
  refine wpAny_mono h1 (fun fl s' h => ?_) fun _ _ e => e
  obtain ⟨rfl, t, h', tk', rfl, F', N'⟩ := h
  exact h2 t h' tk' F' N'
theorem join_int_end {L : Addr} {m m' : Str → Option Value} {x : Str} {n : Int} {t : Tok} {news news' : Led} {h' : Heap} {tk' : Nat} (F : Fr h₀ L h' m') (N : News h₀ L h' news') (hs : ∀ p ∈ news, p ∈ news')
    (e : ∀ y, m' y = if y = x then some (.int n t) else m y) : JoinI h₀ L s m x n news .next { s with heap := h', toks := tk' } := by
  obtain rfl : m' = _ := funext e
  exact ⟨rfl, t, h', tk', rfl, F, fun p hp => N p (hs p hp)⟩
end
def totalP (n len : Int) : Int := if 0 < n then chW (n - 1) (len - 1).toNat else 0
def withoutP (n : Int) (len : Nat) : Int := ((List.range len).map fun k => chW n k).sum
def vfP (kv : List (Int × Int)) (k : Int) : Int := (getKV kv k).getD 0
def timesP (kv : List (Int × Int)) : Int := (kv.map fun p => p.1 * vfP kv p.1).sum
def kfP (sg : Str) (n k : Int) : Str := Txt.mul (Txt.item sg 0) k ++ Txt.mul (Txt.item sg 1) (n - k)
def dueP (sg word : Str) (n : Int) : List (Int × Int) := dueL n (Txt.count word (Txt.item sg 0)) ((word.length : Int) - Txt.count word (Txt.item sg 0)) (n - ((word.length : Int) - Txt.count word (Txt.item sg 0)) + 1 - Txt.count word (Txt.item sg 0)).toNat
structure TurnFacts (sg word : Str) (R : List Str × Book) (n : Int) (e : Ent) : Prop where
  hfind : findB R.2 n = some e
  h1 : e.1 = totalP n word.length
  h2 : e.2.1 = totalP n word.length + withoutP n word.length
  h3 : e.2.2.1 = timesP (dueP sg word n)
  h4 : e.2.2.2.1 = n * totalP n word.length - timesP (dueP sg word n)
  h5 : sameKV e.2.2.2.2 (foldD (kfP sg n) (vfP (dueP sg word n)) ((dueP sg word n).map (·.1))) = true
  h6 : (e.2.2.2.2.map (·.2)).sum = totalP n word.length
  hkv : ∀ p ∈ dueP sg word n, 0 ≤ p.1 ∧ p.1 ≤ 5 ∧ -1000 < vfP (dueP sg word n) p.1 ∧ vfP (dueP sg word n) p.1 < 1000
  hb1 : -1000 < totalP n word.length
  hb2 : totalP n word.length < 1000
theorem BR.keys {w : World} {made : Led} {kvs : List (Int × Value)} {bk : Book} (h : BR w made kvs bk) : kvs.map (·.1) = bk.map (·.1) := by
  induction h with
  | nil => rfl
  | cons _ _ ih => simp only [List.map_cons, ih]
structure LawFacts (sg word : Str) (mid : List Str) (R : List Str × Book) : Prop where
  hs2 : sg.length = 2
  hl0 : (Txt.item sg 0).length = 1
  hl1 : (Txt.item sg 1).length = 1
  hw : word.length < 10
  hwl : 1 < word.length
  hjl : (Txt.join (Str.ofString "...") (signs word)).length < 100
  hin : (Builtin.Str.occurrences (pat word) (Str.ofString "...") 0 (pat word).length 1).isEmpty = false
  hsp : Txt.split (pat word) (Str.ofString "...") = Str.ofString "" :: (mid ++ [Str.ofString ""])
  hmid : mid.length < 100
  hrun : runG mid (Txt.item sg 0) (Txt.item sg 1) 90 ([Str.ofString ""], [], []) = some R
  ha : word.cps.all (· < 128) = true
  hlen : ∀ j, (laidAll sg (word.cps.toList.take j)).length < 64
  hok : ∀ x ∈ R.1, PyData.strOk x = true
  hsort : sortedS R.1 = true
  hperm : R.1.Perm (laidAll sg word.cps.toList)
  hbook : ((R.2.map (·.1)).isPerm [0, 1, 2, 3, 4, 5] && lks_asc [0, 1, 2, 3, 4, 5]) = true
  hbl : 0 < R.2.length
  hbm : R.2.length < 64
  hturn : ∀ n : Int, 0 ≤ n → n < 6 → ∃ e, TurnFacts sg word R n e
  hc0 : 0 ≤ Txt.count word (Txt.item sg 0)
  hc1 : Txt.count word (Txt.item sg 0) ≤ (word.length : Int)
theorem ints_snoc : ∀ {vs : List Value} {ns : List Int}, IntsAre vs ns → ∀ (a : Int) (t : Tok), IntsAre (vs ++ [.int a t]) (ns ++ [a])
  | _, _, .nil, a, t => .cons a t .nil
  | _, _, .cons b u r, a, t => .cons b u (ints_snoc r a t)
def wordS (sg : Str) (ds : List Int) : Str := Txt.join (Str.ofString "") (ds.map fun d => Txt.item sg (d.fmod 2))
section
def forBody (body : List Stmt) : List Stmt := match body.drop 6 with
  | .For _ _ b _ _ :: _ => b
  | _ => []
theorem law_turn (w : World) {name qual : Str} {params : Arguments} {body : List Stmt} {scope : Scope} {dV kV doc pm cdv ct oc : Value} {an od : Option Addr} {osl : Array (Option Value)}
    (ho : (Mine.hd.heap_39 w.params).lookup 101 = some ⟨oc, od, .func (fnOf name qual params body scope dV kV doc pm an cdv ct), osl⟩)
    (mean : ExcName → Option Value) (mg mb : Str → Option Value) (dp un : Nat) (gd : Option (List Code)) (f : Addr) (cd : Value) (outer : List Env) (A₀ : Around) (base h₀ : Heap) (L : Addr) (m : Str → Option Value) (s : Shared) (Q : Flow → Shared → Prop) (E : Value → Shared → Prop)
    (word : Str) (tw to tsg : Tok) (sg : Str) (Bk : Addr)
    (B : Below A₀ base outer h₀) (F : Fr h₀ L s.heap (fun y => if y = Str.ofString "ones" then some (.int (Txt.count word (Txt.item sg 0)) to) else if y = Str.ofString "book" then some (.ref Bk) else if y = Str.ofString "word" then some (.str word tw) else m y)) (X : (Mine.hd.heap_39 w.params).In h₀) (T : Top Mine.hd.view_39 (looseW Mine.hd.view_39 []) mean mg mb h₀)
    (hd : dp + 6 < recursionLimit) (hu : un + 200 < cLine)
    (o1 o2 o3 ob : Obj) (rest : Led) (N : News h₀ L s.heap ((L + 1 + 1 + 1, o3) :: (L + 1 + 1, o2) :: (L + 1, o1) :: (Bk, ob) :: rest)) (hr : ∀ p ∈ (Bk, ob) :: rest, L + 1 + 1 + 1 < p.1)
    (mid : List Str) (R : List Str × Book) (H : LawFacts sg word mid R) (n : Int) (tn : Tok) (hn0 : 0 ≤ n) (hn6 : n < 6) (e : Ent) (G : TurnFacts sg word R n e)
    (h1 : o1.data = .cell (some (.str sg tsg))) (h2 : o2.data = .cell (some (.int n tn))) (q3 : Option Value) (h3 : o3.data = .cell q3)
    (kvs : List (Int × Value)) (hob : ob.IsDictOf (intKind PySem.Challenge.rw_pg0125_01.row.prog w) kvs) (loB : (Bk == sysModules) = false) (hbr : BR w rest kvs R.2)
    (hret : ∀ h' tk' m' news' o3' q', Fr h₀ L h' m' → News h₀ L h' news' → (∀ p ∈ (L + 1 + 1 + 1, o3') :: (L + 1 + 1, o2) :: (L + 1, o1) :: (Bk, ob) :: rest, p ∈ news') → o3'.data = .cell q' →
      (∀ p ∈ [(Str.ofString "ones", Value.int (Txt.count word (Txt.item sg 0)) to), (Str.ofString "book", Value.ref Bk), (Str.ofString "word", Value.str word tw)], m' p.1 = some p.2) →
      (∀ z, (∀ p ∈ [(Str.ofString "ones", Value.int (Txt.count word (Txt.item sg 0)) to), (Str.ofString "book", Value.ref Bk), (Str.ofString "word", Value.str word tw)], z ≠ p.1) → [Str.ofString "callers", Str.ofString "total", Str.ofString "without", Str.ofString "times"].contains z = false → m' z = m z) → Q .next { s with heap := h', toks := tk' }) :
    wpAny (model PySem.Challenge.rw_pg0125_01.row.prog w) (ktrTop dp un gd qual scope L f cd (cellsFrom (L + 1) scope.names []) outer) (execs (forBody body) (envOfC qual scope L f cd)) Q E s := by
  w_top off
  revert ho X T
  k_fill
  intro ho X T
  refine (fun (h9 : (Mine.hd.heap_39 w.params).lookup 101 = some ⟨_, _, .func (fnOf _ _ _ _ _ _ _ _ _ _ _ _), _⟩) => ?_) (by k_is)
  rw [ho] at h9
  cases h9
  clear ho
  simp only [forBody, List.drop_succ_cons, List.drop_zero]
  have hs2 := H.hs2
  have hc0 := H.hc0
  have hc1 := H.hc1
  have hwl := H.hw
  have hwl1 := H.hwl
  (repeat' ((fail_if_success (with_reducible show wpAny _ _ (exec (Stmt.For _ _ _ _ _) _) _ _ _)); (fail_if_success (with_reducible show wpAny _ _ (pyIter _) _ _ _)); (fail_if_success (with_reducible show wpAny _ _ (call (Value.ref _) _) _ _ _)); (fail_if_success (with_reducible show wpAny _ _ (exec (Stmt.If _ _ _ _) _) _ _ _)); (fail_if_success (with_reducible show wpAny _ _ (exec (Stmt.Assign _ (PySem.Expr.DictComp _ _ _ _ _) _) _) _ _ _)); (fail_if_success (with_reducible show wpAny _ _ (eval (PySem.Expr.ListComp _ _ _ _) _) _ _ _)); (fail_if_success (with_reducible show wpAny _ _ (call (Value.builtin "sorted") _) _ _ _)); (fail_if_success (with_reducible show wpAny _ _ (execs (Stmt.Assign [PySem.Expr.Tuple _ _ _] _ _ :: _) _) _ _ _)); (fail_if_success (with_reducible show wpAny _ _ (compareOp _ (Value.ref _) (Value.ref _)) _ _ _)); (fail_if_success (with_reducible show wpAny _ _ (exec (Stmt.Assign _ (PySem.Expr.IfExp _ _ _ _) _) _) _ _ _)); (fail_if_success (with_reducible show JoinI _ _ _ _ _ _ _ _ _)); (fail_if_success (with_reducible show PyProof.Rows.LCg.CompSrc _ _ _ _ _ _ _ _ _ _ _ _ _ _)); (fail_if_success (with_reducible show FlEnd _ _ _ _ _ _ _ _ _ _ _)); (first | (k_unfold; (try dsimp only)) | (k_end; wrow_close) | walk1 | (dsimp only; walk1) | (dsimp only [List.cons_append, List.nil_append]; walk1) | (leave1; walk_say "STEP leave1"; try dsimp only) | fail "no step")))
  k_dflt (refine' spec_use (due_spec w n _ _ _ _ _ _ hn0 (by omega) (by omega) (by omega) (by omega) (by omega)) ?k1 ?k2 ?k3 ?k4 ?k5 ?k6 ?k7 ?k8 ?_)
  (case k4 => k_asm)
  (case k1 => k_asm); (case k2 => k_asm); (case k3 => k_asm); (case k5 => k_asm); (case k6 => exact rfl); (case k7 => ktr_room); (case k8 => ktr_units)
  rintro r' news' h' tk' ⟨dF, oF, rfl, rfl, hltF, loF, DF⟩ F1 N1
  have hF3 : L + 1 + 1 + 1 < dF := hltF (L + 1 + 1 + 1, o3) (by simp)
  have hrr : ∀ p ∈ (Bk, ob) :: rest, p.1 ≠ L + 1 + 1 + 1 := fun p hp => Nat.ne_of_gt (hr p hp)
  (repeat' ((fail_if_success (with_reducible show wpAny _ _ (exec (Stmt.For _ _ _ _ _) _) _ _ _)); (fail_if_success (with_reducible show wpAny _ _ (pyIter _) _ _ _)); (fail_if_success (with_reducible show wpAny _ _ (call (Value.ref _) _) _ _ _)); (fail_if_success (with_reducible show wpAny _ _ (exec (Stmt.If _ _ _ _) _) _ _ _)); (fail_if_success (with_reducible show wpAny _ _ (exec (Stmt.Assign _ (PySem.Expr.DictComp _ _ _ _ _) _) _) _ _ _)); (fail_if_success (with_reducible show wpAny _ _ (eval (PySem.Expr.ListComp _ _ _ _) _) _ _ _)); (fail_if_success (with_reducible show wpAny _ _ (call (Value.builtin "sorted") _) _ _ _)); (fail_if_success (with_reducible show wpAny _ _ (execs (Stmt.Assign [PySem.Expr.Tuple _ _ _] _ _ :: _) _) _ _ _)); (fail_if_success (with_reducible show wpAny _ _ (compareOp _ (Value.ref _) (Value.ref _)) _ _ _)); (fail_if_success (with_reducible show wpAny _ _ (exec (Stmt.Assign _ (PySem.Expr.IfExp _ _ _ _) _) _) _ _ _)); (fail_if_success (with_reducible show JoinI _ _ _ _ _ _ _ _ _)); (fail_if_success (with_reducible show PyProof.Rows.LCg.CompSrc _ _ _ _ _ _ _ _ _ _ _ _ _ _)); (fail_if_success (with_reducible show FlEnd _ _ _ _ _ _ _ _ _ _ _)); (first | (k_unfold; (try dsimp only)) | (k_end; wrow_close) | walk1 | (dsimp only; walk1) | (dsimp only [List.cons_append, List.nil_append]; walk1) | (leave1; walk_say "STEP leave1"; try dsimp only) | fail "no step")))
  refine' storeX_C (c := L + 1 + 1 + 1) F1 N1 ?sc (UpdF.tail (Nat.ne_of_gt hF3) (UpdF.head ?sh)) h3 ?_ ?sa ?sb
  case sc => rfl
  case sa => rfl
  case sb => rfl
  case sh => exact List.forall_mem_cons.mpr ⟨Nat.ne_of_lt (Nat.lt_succ_self _), List.forall_mem_cons.mpr ⟨Nat.ne_of_lt (Nat.lt_succ_of_lt (Nat.lt_succ_self _)), hrr⟩⟩
  intro h2' o3' F2 N2 h3'
  clear N1 F1
  (repeat' ((fail_if_success (with_reducible show wpAny _ _ (exec (Stmt.For _ _ _ _ _) _) _ _ _)); (fail_if_success (with_reducible show wpAny _ _ (pyIter _) _ _ _)); (fail_if_success (with_reducible show wpAny _ _ (call (Value.ref _) _) _ _ _)); (fail_if_success (with_reducible show wpAny _ _ (exec (Stmt.If _ _ _ _) _) _ _ _)); (fail_if_success (with_reducible show wpAny _ _ (exec (Stmt.Assign _ (PySem.Expr.DictComp _ _ _ _ _) _) _) _ _ _)); (fail_if_success (with_reducible show wpAny _ _ (eval (PySem.Expr.ListComp _ _ _ _) _) _ _ _)); (fail_if_success (with_reducible show wpAny _ _ (call (Value.builtin "sorted") _) _ _ _)); (fail_if_success (with_reducible show wpAny _ _ (execs (Stmt.Assign [PySem.Expr.Tuple _ _ _] _ _ :: _) _) _ _ _)); (fail_if_success (with_reducible show wpAny _ _ (compareOp _ (Value.ref _) (Value.ref _)) _ _ _)); (fail_if_success (with_reducible show wpAny _ _ (exec (Stmt.Assign _ (PySem.Expr.IfExp _ _ _ _) _) _) _ _ _)); (fail_if_success (with_reducible show JoinI _ _ _ _ _ _ _ _ _)); (fail_if_success (with_reducible show PyProof.Rows.LCg.CompSrc _ _ _ _ _ _ _ _ _ _ _ _ _ _)); (fail_if_success (with_reducible show FlEnd _ _ _ _ _ _ _ _ _ _ _)); (first | (k_unfold; (try dsimp only)) | (k_end; wrow_close) | walk1 | (dsimp only; walk1) | (dsimp only [List.cons_append, List.nil_append]; walk1) | (leave1; walk_say "STEP leave1"; try dsimp only) | fail "no step")))
  have hkv : ∀ (i : Nat) (k v : Int), (dueP sg word n)[i]? = some (k, v) → 0 ≤ k ∧ k ≤ 5 ∧ -1000 < vfP (dueP sg word n) k ∧ vfP (dueP sg word n) k < 1000 ∧ getKV (dueP sg word n) k = some (vfP (dueP sg word n) k) := by
    intro i k v hi
    have hm := List.mem_of_getElem? hi
    obtain ⟨x, hx⟩ := getKV_some hm
    have hg := G.hkv _ hm
    refine ⟨hg.1, hg.2.1, hg.2.2.1, hg.2.2.2, ?_⟩
    unfold vfP
    rw [hx]; rfl
  have DF' : IsI w oF (dueP sg word n) := DF
  refine' dc_keys (kfP sg n) (vfP (dueP sg word n)) rfl ?a1 ?a2 ?a3 ?a4 ?a5 ?a6 ?a7 ?a8 F2 N2 List.mem_cons_self loF (Top.nolimit T) DF' ?a9 ?a10 ?a11 ?a12 ?a13
  case a1 => rfl
  case a2 => rfl
  case a3 => decide
  case a4 => rfl
  case a5 => decide
  case a6 => rfl
  case a7 => rfl
  case a8 => rfl
  case a9 => exact Nat.lt_of_le_of_lt (dueL_length _ _ _ _) (by omega)
  case a10 =>
    intro Q9 hQ9
    (repeat' ((fail_if_success (with_reducible show wpAny _ _ (exec (Stmt.For _ _ _ _ _) _) _ _ _)); (fail_if_success (with_reducible show wpAny _ _ (pyIter _) _ _ _)); (fail_if_success (with_reducible show wpAny _ _ (call (Value.ref _) _) _ _ _)); (fail_if_success (with_reducible show wpAny _ _ (exec (Stmt.If _ _ _ _) _) _ _ _)); (fail_if_success (with_reducible show wpAny _ _ (exec (Stmt.Assign _ (PySem.Expr.DictComp _ _ _ _ _) _) _) _ _ _)); (fail_if_success (with_reducible show wpAny _ _ (eval (PySem.Expr.ListComp _ _ _ _) _) _ _ _)); (fail_if_success (with_reducible show wpAny _ _ (call (Value.builtin "sorted") _) _ _ _)); (fail_if_success (with_reducible show wpAny _ _ (execs (Stmt.Assign [PySem.Expr.Tuple _ _ _] _ _ :: _) _) _ _ _)); (fail_if_success (with_reducible show wpAny _ _ (compareOp _ (Value.ref _) (Value.ref _)) _ _ _)); (fail_if_success (with_reducible show wpAny _ _ (exec (Stmt.Assign _ (PySem.Expr.IfExp _ _ _ _) _) _) _ _ _)); (fail_if_success (with_reducible show JoinI _ _ _ _ _ _ _ _ _)); (fail_if_success (with_reducible show PyProof.Rows.LCg.CompSrc _ _ _ _ _ _ _ _ _ _ _ _ _ _)); (fail_if_success (with_reducible show FlEnd _ _ _ _ _ _ _ _ _ _ _)); (first | (k_unfold; (try dsimp only)) | (k_end; wrow_close) | walk1 | (dsimp only; walk1) | (dsimp only [List.cons_append, List.nil_append]; walk1) | (leave1; walk_say "STEP leave1"; try dsimp only) | fail "no step")))
    exact hQ9
  case a11 =>
    intro i k v t I oI C oC m₂ D oD h9 tk9 Q9 E9 hi hoC hm₂ F9 N9 hQ9
    have hl0 := H.hl0
    have hl1 := H.hl1
    obtain ⟨hk0, hk5, _, _, _⟩ := hkv i k v hi
    have hm1 := len_mul_leN (x := Txt.item sg 0) (n := k) (L := 1) (N := 20) (by omega) (by omega)
    have hm2 := len_mul_leN (x := Txt.item sg 1) (n := n - k) (L := 1) (N := 20) (by omega) (by omega)
    (repeat' ((fail_if_success (with_reducible show wpAny _ _ (exec (Stmt.For _ _ _ _ _) _) _ _ _)); (fail_if_success (with_reducible show wpAny _ _ (pyIter _) _ _ _)); (fail_if_success (with_reducible show wpAny _ _ (call (Value.ref _) _) _ _ _)); (fail_if_success (with_reducible show wpAny _ _ (exec (Stmt.If _ _ _ _) _) _ _ _)); (fail_if_success (with_reducible show wpAny _ _ (exec (Stmt.Assign _ (PySem.Expr.DictComp _ _ _ _ _) _) _) _ _ _)); (fail_if_success (with_reducible show wpAny _ _ (eval (PySem.Expr.ListComp _ _ _ _) _) _ _ _)); (fail_if_success (with_reducible show wpAny _ _ (call (Value.builtin "sorted") _) _ _ _)); (fail_if_success (with_reducible show wpAny _ _ (execs (Stmt.Assign [PySem.Expr.Tuple _ _ _] _ _ :: _) _) _ _ _)); (fail_if_success (with_reducible show wpAny _ _ (compareOp _ (Value.ref _) (Value.ref _)) _ _ _)); (fail_if_success (with_reducible show wpAny _ _ (exec (Stmt.Assign _ (PySem.Expr.IfExp _ _ _ _) _) _) _ _ _)); (fail_if_success (with_reducible show JoinI _ _ _ _ _ _ _ _ _)); (fail_if_success (with_reducible show PyProof.Rows.LCg.CompSrc _ _ _ _ _ _ _ _ _ _ _ _ _ _)); (fail_if_success (with_reducible show FlEnd _ _ _ _ _ _ _ _ _ _ _)); (first | (k_unfold; (try dsimp only)) | (k_end; wrow_close) | walk1 | (dsimp only; walk1) | (dsimp only [List.cons_append, List.nil_append]; walk1) | (leave1; walk_say "STEP leave1"; try dsimp only) | fail "no step")))
    exact hQ9 _ _ _ F9 N9
  case a12 =>
    intro i k v t I oI C oC m₂ D oD h9 tk9 Q9 E9 hi hoC hm₂ F9 N9 hQ9
    obtain ⟨hk0, hk5, hv0, hv1, hget⟩ := hkv i k v hi
    (repeat' ((fail_if_success (with_reducible show wpAny _ _ (exec (Stmt.For _ _ _ _ _) _) _ _ _)); (fail_if_success (with_reducible show wpAny _ _ (pyIter _) _ _ _)); (fail_if_success (with_reducible show wpAny _ _ (call (Value.ref _) _) _ _ _)); (fail_if_success (with_reducible show wpAny _ _ (exec (Stmt.If _ _ _ _) _) _ _ _)); (fail_if_success (with_reducible show wpAny _ _ (exec (Stmt.Assign _ (PySem.Expr.DictComp _ _ _ _ _) _) _) _ _ _)); (fail_if_success (with_reducible show wpAny _ _ (eval (PySem.Expr.ListComp _ _ _ _) _) _ _ _)); (fail_if_success (with_reducible show wpAny _ _ (call (Value.builtin "sorted") _) _ _ _)); (fail_if_success (with_reducible show wpAny _ _ (execs (Stmt.Assign [PySem.Expr.Tuple _ _ _] _ _ :: _) _) _ _ _)); (fail_if_success (with_reducible show wpAny _ _ (compareOp _ (Value.ref _) (Value.ref _)) _ _ _)); (fail_if_success (with_reducible show wpAny _ _ (exec (Stmt.Assign _ (PySem.Expr.IfExp _ _ _ _) _) _) _ _ _)); (fail_if_success (with_reducible show JoinI _ _ _ _ _ _ _ _ _)); (fail_if_success (with_reducible show PyProof.Rows.LCg.CompSrc _ _ _ _ _ _ _ _ _ _ _ _ _ _)); (fail_if_success (with_reducible show FlEnd _ _ _ _ _ _ _ _ _ _ _)); (first | (k_unfold; (try dsimp only)) | (k_end; wrow_close) | walk1 | (dsimp only; walk1) | (dsimp only [List.cons_append, List.nil_append]; walk1) | (leave1; walk_say "STEP leave1"; try dsimp only) | fail "no step")))
    refine getI1 N9 (by k_mem) loF DF' hget ?_
    intro u9
    exact hQ9 _ _ _ F9 N9
  case a13 =>
    intro D9 oD9 h9 tk9 hDc loD F9 N9 hltD
    clear N2 F2
    (repeat' ((fail_if_success (with_reducible show wpAny _ _ (exec (Stmt.For _ _ _ _ _) _) _ _ _)); (fail_if_success (with_reducible show wpAny _ _ (pyIter _) _ _ _)); (fail_if_success (with_reducible show wpAny _ _ (call (Value.ref _) _) _ _ _)); (fail_if_success (with_reducible show wpAny _ _ (exec (Stmt.If _ _ _ _) _) _ _ _)); (fail_if_success (with_reducible show wpAny _ _ (exec (Stmt.Assign _ (PySem.Expr.DictComp _ _ _ _ _) _) _) _ _ _)); (fail_if_success (with_reducible show wpAny _ _ (eval (PySem.Expr.ListComp _ _ _ _) _) _ _ _)); (fail_if_success (with_reducible show wpAny _ _ (call (Value.builtin "sorted") _) _ _ _)); (fail_if_success (with_reducible show wpAny _ _ (execs (Stmt.Assign [PySem.Expr.Tuple _ _ _] _ _ :: _) _) _ _ _)); (fail_if_success (with_reducible show wpAny _ _ (compareOp _ (Value.ref _) (Value.ref _)) _ _ _)); (fail_if_success (with_reducible show wpAny _ _ (exec (Stmt.Assign _ (PySem.Expr.IfExp _ _ _ _) _) _) _ _ _)); (fail_if_success (with_reducible show JoinI _ _ _ _ _ _ _ _ _)); (fail_if_success (with_reducible show PyProof.Rows.LCg.CompSrc _ _ _ _ _ _ _ _ _ _ _ _ _ _)); (fail_if_success (with_reducible show FlEnd _ _ _ _ _ _ _ _ _ _ _)); (first | (k_unfold; (try dsimp only)) | (k_end; wrow_close) | walk1 | (dsimp only; walk1) | (dsimp only [List.cons_append, List.nil_append]; walk1) | (leave1; walk_say "STEP leave1"; try dsimp only) | fail "no step")))
    refine join_int (Str.ofString "total") (totalP n word.length) ((D9, oD9) :: (dF, oF) :: (L + 1 + 1 + 1, o3') :: (L + 1 + 1, o2) :: (L + 1, o1) :: (Bk, ob) :: rest) F9 ?jw ?jt
    case jw =>
      walk1
      (repeat' ((fail_if_success (with_reducible show wpAny _ _ (exec (Stmt.For _ _ _ _ _) _) _ _ _)); (fail_if_success (with_reducible show wpAny _ _ (pyIter _) _ _ _)); (fail_if_success (with_reducible show wpAny _ _ (call (Value.ref _) _) _ _ _)); (fail_if_success (with_reducible show wpAny _ _ (exec (Stmt.If _ _ _ _) _) _ _ _)); (fail_if_success (with_reducible show wpAny _ _ (exec (Stmt.Assign _ (PySem.Expr.DictComp _ _ _ _ _) _) _) _ _ _)); (fail_if_success (with_reducible show wpAny _ _ (eval (PySem.Expr.ListComp _ _ _ _) _) _ _ _)); (fail_if_success (with_reducible show wpAny _ _ (call (Value.builtin "sorted") _) _ _ _)); (fail_if_success (with_reducible show wpAny _ _ (execs (Stmt.Assign [PySem.Expr.Tuple _ _ _] _ _ :: _) _) _ _ _)); (fail_if_success (with_reducible show wpAny _ _ (compareOp _ (Value.ref _) (Value.ref _)) _ _ _)); (fail_if_success (with_reducible show wpAny _ _ (exec (Stmt.Assign _ (PySem.Expr.IfExp _ _ _ _) _) _) _ _ _)); (fail_if_success (with_reducible show JoinI _ _ _ _ _ _ _ _ _)); (fail_if_success (with_reducible show PyProof.Rows.LCg.CompSrc _ _ _ _ _ _ _ _ _ _ _ _ _ _)); (fail_if_success (with_reducible show FlEnd _ _ _ _ _ _ _ _ _ _ _)); (first | (k_unfold; (try dsimp only)) | (k_end; wrow_close) | walk1 | (dsimp only; walk1) | (dsimp only [List.cons_append, List.nil_append]; walk1) | (leave1; walk_say "STEP leave1"; try dsimp only) | fail "no step")))
      · rename (0 < n) => hpos
        have hch : ∀ i, i ≤ ((word.length : Int) - 1).toNat → -1000000 < chW (n - 1) i ∧ chW (n - 1) i < 1000000 := fun i hi => chW_bound (by omega) (by omega) (by omega)
        k_dflt (refine' spec_use (ch_spec w _ _ _ _ _ (by omega) (by omega) (by omega) (by omega) hch) ?k1 ?k2 ?k3 ?k4 ?k5 ?k6 ?k7 ?k8 ?_)
        (case k4 => k_asm)
        (case k1 => k_asm); (case k2 => k_asm); (case k3 => k_asm); (case k5 => k_asm); (case k6 => exact rfl); (case k7 => ktr_room); (case k8 => ktr_units)
        rintro r' news' h' tk' ⟨⟨tr, rfl⟩, rfl⟩ F10 N10
        have htot : chW (n - 1) ((word.length : Int) - 1).toNat = totalP n word.length := by unfold totalP; rw [if_pos hpos]
        rw [htot]
        (repeat' ((fail_if_success (with_reducible show wpAny _ _ (exec (Stmt.For _ _ _ _ _) _) _ _ _)); (fail_if_success (with_reducible show wpAny _ _ (pyIter _) _ _ _)); (fail_if_success (with_reducible show wpAny _ _ (call (Value.ref _) _) _ _ _)); (fail_if_success (with_reducible show wpAny _ _ (exec (Stmt.If _ _ _ _) _) _ _ _)); (fail_if_success (with_reducible show wpAny _ _ (exec (Stmt.Assign _ (PySem.Expr.DictComp _ _ _ _ _) _) _) _ _ _)); (fail_if_success (with_reducible show wpAny _ _ (eval (PySem.Expr.ListComp _ _ _ _) _) _ _ _)); (fail_if_success (with_reducible show wpAny _ _ (call (Value.builtin "sorted") _) _ _ _)); (fail_if_success (with_reducible show wpAny _ _ (execs (Stmt.Assign [PySem.Expr.Tuple _ _ _] _ _ :: _) _) _ _ _)); (fail_if_success (with_reducible show wpAny _ _ (compareOp _ (Value.ref _) (Value.ref _)) _ _ _)); (fail_if_success (with_reducible show wpAny _ _ (exec (Stmt.Assign _ (PySem.Expr.IfExp _ _ _ _) _) _) _ _ _)); (fail_if_success (with_reducible show JoinI _ _ _ _ _ _ _ _ _)); (fail_if_success (with_reducible show PyProof.Rows.LCg.CompSrc _ _ _ _ _ _ _ _ _ _ _ _ _ _)); (fail_if_success (with_reducible show FlEnd _ _ _ _ _ _ _ _ _ _ _)); (first | (k_unfold; (try dsimp only)) | (k_end; wrow_close) | walk1 | (dsimp only; walk1) | (dsimp only [List.cons_append, List.nil_append]; walk1) | (leave1; walk_say "STEP leave1"; try dsimp only) | fail "no step")))
        exact join_int_end (by assumption) (by assumption) (fun _ h => h) (fun _ => rfl)
      · rename (¬ 0 < n) => hpos
        have htot : totalP n word.length = 0 := by unfold totalP; rw [if_neg hpos]
        rw [htot]
        exact join_int_end (by assumption) (by assumption) (fun _ h => h) (fun _ => rfl)
    case jt =>
      intro tT h10 tk10 F10 N10
      clear N9 F9
      (repeat' ((fail_if_success (with_reducible show wpAny _ _ (exec (Stmt.For _ _ _ _ _) _) _ _ _)); (fail_if_success (with_reducible show wpAny _ _ (pyIter _) _ _ _)); (fail_if_success (with_reducible show wpAny _ _ (call (Value.ref _) _) _ _ _)); (fail_if_success (with_reducible show wpAny _ _ (exec (Stmt.If _ _ _ _) _) _ _ _)); (fail_if_success (with_reducible show wpAny _ _ (exec (Stmt.Assign _ (PySem.Expr.DictComp _ _ _ _ _) _) _) _ _ _)); (fail_if_success (with_reducible show wpAny _ _ (eval (PySem.Expr.ListComp _ _ _ _) _) _ _ _)); (fail_if_success (with_reducible show wpAny _ _ (call (Value.builtin "sorted") _) _ _ _)); (fail_if_success (with_reducible show wpAny _ _ (execs (Stmt.Assign [PySem.Expr.Tuple _ _ _] _ _ :: _) _) _ _ _)); (fail_if_success (with_reducible show wpAny _ _ (compareOp _ (Value.ref _) (Value.ref _)) _ _ _)); (fail_if_success (with_reducible show wpAny _ _ (exec (Stmt.Assign _ (PySem.Expr.IfExp _ _ _ _) _) _) _ _ _)); (fail_if_success (with_reducible show JoinI _ _ _ _ _ _ _ _ _)); (fail_if_success (with_reducible show PyProof.Rows.LCg.CompSrc _ _ _ _ _ _ _ _ _ _ _ _ _ _)); (fail_if_success (with_reducible show FlEnd _ _ _ _ _ _ _ _ _ _ _)); (first | (k_unfold; (try dsimp only)) | (k_end; wrow_close) | walk1 | (dsimp only; walk1) | (dsimp only [List.cons_append, List.nil_append]; walk1) | (leave1; walk_say "STEP leave1"; try dsimp only) | fail "no step")))
      refine LCg.ListComp_U (F₀ := by k_asm) (by rfl) (by decide) (by rfl) (by decide) (by rfl) ?_
      (repeat' ((fail_if_success (with_reducible show wpAny _ _ (exec (Stmt.For _ _ _ _ _) _) _ _ _)); (fail_if_success (with_reducible show wpAny _ _ (pyIter _) _ _ _)); (fail_if_success (with_reducible show wpAny _ _ (call (Value.ref _) _) _ _ _)); (fail_if_success (with_reducible show wpAny _ _ (exec (Stmt.If _ _ _ _) _) _ _ _)); (fail_if_success (with_reducible show wpAny _ _ (exec (Stmt.Assign _ (PySem.Expr.DictComp _ _ _ _ _) _) _) _ _ _)); (fail_if_success (with_reducible show wpAny _ _ (eval (PySem.Expr.ListComp _ _ _ _) _) _ _ _)); (fail_if_success (with_reducible show wpAny _ _ (call (Value.builtin "sorted") _) _ _ _)); (fail_if_success (with_reducible show wpAny _ _ (execs (Stmt.Assign [PySem.Expr.Tuple _ _ _] _ _ :: _) _) _ _ _)); (fail_if_success (with_reducible show wpAny _ _ (compareOp _ (Value.ref _) (Value.ref _)) _ _ _)); (fail_if_success (with_reducible show wpAny _ _ (exec (Stmt.Assign _ (PySem.Expr.IfExp _ _ _ _) _) _) _ _ _)); (fail_if_success (with_reducible show JoinI _ _ _ _ _ _ _ _ _)); (fail_if_success (with_reducible show PyProof.Rows.LCg.CompSrc _ _ _ _ _ _ _ _ _ _ _ _ _ _)); (fail_if_success (with_reducible show FlEnd _ _ _ _ _ _ _ _ _ _ _)); (first | (k_unfold; (try dsimp only)) | (k_end; wrow_close) | walk1 | (dsimp only; walk1) | (dsimp only [List.cons_append, List.nil_append]; walk1) | (leave1; walk_say "STEP leave1"; try dsimp only) | fail "no step")))
      rename IsRange _ _ _ _ _ _ _ _ => hR11
      rename Fr _ _ _ _ => F11
      rename News _ _ _ _ => N11
      refine LCg.CompSrc.range (n := word.length) rfl F11 N11 hR11 (range_small (by omega) (by omega) (by omega) (by omega)) (by rw [range_size, Int.sub_zero]; omega) (by rw [sizeLine_eq]; omega) ?_
      intro g11
      refine compRest_inv (fun i ys => IntsAre ys ((List.range i).map fun k => chW n k)) trivial .nil ?wt ?wf
      case wt =>
        rintro i ys v I oI C oC D11 m₂ h tk Q11 E11 hi hys ⟨tv, rfl⟩ hoC hm₂ F12 N12 hQ11
        (repeat' ((fail_if_success (with_reducible show wpAny _ _ (exec (Stmt.For _ _ _ _ _) _) _ _ _)); (fail_if_success (with_reducible show wpAny _ _ (pyIter _) _ _ _)); (fail_if_success (with_reducible show wpAny _ _ (call (Value.ref _) _) _ _ _)); (fail_if_success (with_reducible show wpAny _ _ (exec (Stmt.If _ _ _ _) _) _ _ _)); (fail_if_success (with_reducible show wpAny _ _ (exec (Stmt.Assign _ (PySem.Expr.DictComp _ _ _ _ _) _) _) _ _ _)); (fail_if_success (with_reducible show wpAny _ _ (eval (PySem.Expr.ListComp _ _ _ _) _) _ _ _)); (fail_if_success (with_reducible show wpAny _ _ (call (Value.builtin "sorted") _) _ _ _)); (fail_if_success (with_reducible show wpAny _ _ (execs (Stmt.Assign [PySem.Expr.Tuple _ _ _] _ _ :: _) _) _ _ _)); (fail_if_success (with_reducible show wpAny _ _ (compareOp _ (Value.ref _) (Value.ref _)) _ _ _)); (fail_if_success (with_reducible show wpAny _ _ (exec (Stmt.Assign _ (PySem.Expr.IfExp _ _ _ _) _) _) _ _ _)); (fail_if_success (with_reducible show JoinI _ _ _ _ _ _ _ _ _)); (fail_if_success (with_reducible show PyProof.Rows.LCg.CompSrc _ _ _ _ _ _ _ _ _ _ _ _ _ _)); (fail_if_success (with_reducible show FlEnd _ _ _ _ _ _ _ _ _ _ _)); (first | (k_unfold; (try dsimp only)) | (k_end; wrow_close) | walk1 | (dsimp only; walk1) | (dsimp only [List.cons_append, List.nil_append]; walk1) | (leave1; walk_say "STEP leave1"; try dsimp only) | fail "no step")))
        have hch : ∀ j, j ≤ (0 + (i : Int)).toNat → -1000000 < chW n j ∧ chW n j < 1000000 := fun j hj => chW_bound (by omega) (by omega) (by omega)
        k_dflt (refine' spec_use (ch_spec w _ _ _ _ _ (by omega) (by omega) (by omega) (by omega) hch) ?k1 ?k2 ?k3 ?k4 ?k5 ?k6 ?k7 ?k8 ?_)
        (case k4 => k_asm)
        (case k1 => k_asm); (case k2 => k_asm); (case k3 => k_asm); (case k5 => k_asm); (case k6 => exact rfl); (case k7 => ktr_room); (case k8 => ktr_units)
        rintro r' news' h' tk' ⟨⟨tr, rfl⟩, rfl⟩ F13 N13
        rw [show (0 + (i : Int)).toNat = i from by omega]
        refine hQ11 _ _ _ F13 N13 ?_
        rw [List.range_succ, List.map_append]
        exact ints_snoc hys _ _
      case wf =>
        intro ys hys
        intro D11 h11 tk11 F12 N12 off11
        (repeat' ((fail_if_success (with_reducible show wpAny _ _ (exec (Stmt.For _ _ _ _ _) _) _ _ _)); (fail_if_success (with_reducible show wpAny _ _ (pyIter _) _ _ _)); (fail_if_success (with_reducible show wpAny _ _ (call (Value.ref _) _) _ _ _)); (fail_if_success (with_reducible show wpAny _ _ (exec (Stmt.If _ _ _ _) _) _ _ _)); (fail_if_success (with_reducible show wpAny _ _ (exec (Stmt.Assign _ (PySem.Expr.DictComp _ _ _ _ _) _) _) _ _ _)); (fail_if_success (with_reducible show wpAny _ _ (eval (PySem.Expr.ListComp _ _ _ _) _) _ _ _)); (fail_if_success (with_reducible show wpAny _ _ (call (Value.builtin "sorted") _) _ _ _)); (fail_if_success (with_reducible show wpAny _ _ (execs (Stmt.Assign [PySem.Expr.Tuple _ _ _] _ _ :: _) _) _ _ _)); (fail_if_success (with_reducible show wpAny _ _ (compareOp _ (Value.ref _) (Value.ref _)) _ _ _)); (fail_if_success (with_reducible show wpAny _ _ (exec (Stmt.Assign _ (PySem.Expr.IfExp _ _ _ _) _) _) _ _ _)); (fail_if_success (with_reducible show JoinI _ _ _ _ _ _ _ _ _)); (fail_if_success (with_reducible show PyProof.Rows.LCg.CompSrc _ _ _ _ _ _ _ _ _ _ _ _ _ _)); (fail_if_success (with_reducible show FlEnd _ _ _ _ _ _ _ _ _ _ _)); (first | (k_unfold; (try dsimp only)) | (k_end; wrow_close) | walk1 | (dsimp only; walk1) | (dsimp only [List.cons_append, List.nil_append]; walk1) | (leave1; walk_say "STEP leave1"; try dsimp only) | fail "no step")))
        rename Fr _ _ _ _ => F13
        rename News _ _ _ _ => N13
        clear F12 N12
        replace N13 := kti_tail N13
        refine' lc_keys (fun i ys => IntsAre ys (((dueP sg word n).take i).map fun p => p.1 * vfP (dueP sg word n) p.1)) rfl ?b1 ?b2 ?b3 ?b4 ?b5 F13 N13 (by k_mem) loF DF' .nil ?b6 ?b7 ?b8 ?b9
        case b1 => rfl
        case b2 => decide
        case b3 => rfl
        case b4 => decide
        case b5 => rfl
        case b6 =>
          intro Q9 hQ9
          (repeat' ((fail_if_success (with_reducible show wpAny _ _ (exec (Stmt.For _ _ _ _ _) _) _ _ _)); (fail_if_success (with_reducible show wpAny _ _ (pyIter _) _ _ _)); (fail_if_success (with_reducible show wpAny _ _ (call (Value.ref _) _) _ _ _)); (fail_if_success (with_reducible show wpAny _ _ (exec (Stmt.If _ _ _ _) _) _ _ _)); (fail_if_success (with_reducible show wpAny _ _ (exec (Stmt.Assign _ (PySem.Expr.DictComp _ _ _ _ _) _) _) _ _ _)); (fail_if_success (with_reducible show wpAny _ _ (eval (PySem.Expr.ListComp _ _ _ _) _) _ _ _)); (fail_if_success (with_reducible show wpAny _ _ (call (Value.builtin "sorted") _) _ _ _)); (fail_if_success (with_reducible show wpAny _ _ (execs (Stmt.Assign [PySem.Expr.Tuple _ _ _] _ _ :: _) _) _ _ _)); (fail_if_success (with_reducible show wpAny _ _ (compareOp _ (Value.ref _) (Value.ref _)) _ _ _)); (fail_if_success (with_reducible show wpAny _ _ (exec (Stmt.Assign _ (PySem.Expr.IfExp _ _ _ _) _) _) _ _ _)); (fail_if_success (with_reducible show JoinI _ _ _ _ _ _ _ _ _)); (fail_if_success (with_reducible show PyProof.Rows.LCg.CompSrc _ _ _ _ _ _ _ _ _ _ _ _ _ _)); (fail_if_success (with_reducible show FlEnd _ _ _ _ _ _ _ _ _ _ _)); (first | (k_unfold; (try dsimp only)) | (k_end; wrow_close) | walk1 | (dsimp only; walk1) | (dsimp only [List.cons_append, List.nil_append]; walk1) | (leave1; walk_say "STEP leave1"; try dsimp only) | fail "no step")))
          exact hQ9
        case b7 =>
          rintro i k v t ys e9 I oI C oC m₂ D h14 tk14 Q14 E14 hi hys9 hoC hm₂ F14 N14 hQ14
          obtain ⟨hk0, hk5, hv0, hv1, hget⟩ := hkv i k v hi
          (repeat' ((fail_if_success (with_reducible show wpAny _ _ (exec (Stmt.For _ _ _ _ _) _) _ _ _)); (fail_if_success (with_reducible show wpAny _ _ (pyIter _) _ _ _)); (fail_if_success (with_reducible show wpAny _ _ (call (Value.ref _) _) _ _ _)); (fail_if_success (with_reducible show wpAny _ _ (exec (Stmt.If _ _ _ _) _) _ _ _)); (fail_if_success (with_reducible show wpAny _ _ (exec (Stmt.Assign _ (PySem.Expr.DictComp _ _ _ _ _) _) _) _ _ _)); (fail_if_success (with_reducible show wpAny _ _ (eval (PySem.Expr.ListComp _ _ _ _) _) _ _ _)); (fail_if_success (with_reducible show wpAny _ _ (call (Value.builtin "sorted") _) _ _ _)); (fail_if_success (with_reducible show wpAny _ _ (execs (Stmt.Assign [PySem.Expr.Tuple _ _ _] _ _ :: _) _) _ _ _)); (fail_if_success (with_reducible show wpAny _ _ (compareOp _ (Value.ref _) (Value.ref _)) _ _ _)); (fail_if_success (with_reducible show wpAny _ _ (exec (Stmt.Assign _ (PySem.Expr.IfExp _ _ _ _) _) _) _ _ _)); (fail_if_success (with_reducible show JoinI _ _ _ _ _ _ _ _ _)); (fail_if_success (with_reducible show PyProof.Rows.LCg.CompSrc _ _ _ _ _ _ _ _ _ _ _ _ _ _)); (fail_if_success (with_reducible show FlEnd _ _ _ _ _ _ _ _ _ _ _)); (first | (k_unfold; (try dsimp only)) | (k_end; wrow_close) | walk1 | (dsimp only; walk1) | (dsimp only [List.cons_append, List.nil_append]; walk1) | (leave1; walk_say "STEP leave1"; try dsimp only) | fail "no step")))
          refine getI1 N14 (by k_mem) loF DF' hget ?_
          intro u9
          (repeat' ((fail_if_success (with_reducible show wpAny _ _ (exec (Stmt.For _ _ _ _ _) _) _ _ _)); (fail_if_success (with_reducible show wpAny _ _ (pyIter _) _ _ _)); (fail_if_success (with_reducible show wpAny _ _ (call (Value.ref _) _) _ _ _)); (fail_if_success (with_reducible show wpAny _ _ (exec (Stmt.If _ _ _ _) _) _ _ _)); (fail_if_success (with_reducible show wpAny _ _ (exec (Stmt.Assign _ (PySem.Expr.DictComp _ _ _ _ _) _) _) _ _ _)); (fail_if_success (with_reducible show wpAny _ _ (eval (PySem.Expr.ListComp _ _ _ _) _) _ _ _)); (fail_if_success (with_reducible show wpAny _ _ (call (Value.builtin "sorted") _) _ _ _)); (fail_if_success (with_reducible show wpAny _ _ (execs (Stmt.Assign [PySem.Expr.Tuple _ _ _] _ _ :: _) _) _ _ _)); (fail_if_success (with_reducible show wpAny _ _ (compareOp _ (Value.ref _) (Value.ref _)) _ _ _)); (fail_if_success (with_reducible show wpAny _ _ (exec (Stmt.Assign _ (PySem.Expr.IfExp _ _ _ _) _) _) _ _ _)); (fail_if_success (with_reducible show JoinI _ _ _ _ _ _ _ _ _)); (fail_if_success (with_reducible show PyProof.Rows.LCg.CompSrc _ _ _ _ _ _ _ _ _ _ _ _ _ _)); (fail_if_success (with_reducible show FlEnd _ _ _ _ _ _ _ _ _ _ _)); (first | (k_unfold; (try dsimp only)) | (k_end; wrow_close) | walk1 | (dsimp only; walk1) | (dsimp only [List.cons_append, List.nil_append]; walk1) | (leave1; walk_say "STEP leave1"; try dsimp only) | fail "no step")))
          refine hQ14 _ _ _ F14 N14 ?_
          rw [List.take_add_one, hi, List.map_append]
          exact ints_snoc hys9 _ _
        case b8 =>
          intro i ys hys9
          have hkl : (dueP sg word n).length ≤ 20 := Nat.le_trans (dueL_length _ _ _ _) (by omega)
          rw [hys9.length, List.length_map, List.length_take]
          omega
        case b9 =>
          rintro D15 ys15 e15 h15 tk15 hys15 F15 N15 hlt15
          rw [List.take_length] at hys15
          (repeat' ((fail_if_success (with_reducible show wpAny _ _ (exec (Stmt.For _ _ _ _ _) _) _ _ _)); (fail_if_success (with_reducible show wpAny _ _ (pyIter _) _ _ _)); (fail_if_success (with_reducible show wpAny _ _ (call (Value.ref _) _) _ _ _)); (fail_if_success (with_reducible show wpAny _ _ (exec (Stmt.If _ _ _ _) _) _ _ _)); (fail_if_success (with_reducible show wpAny _ _ (exec (Stmt.Assign _ (PySem.Expr.DictComp _ _ _ _ _) _) _) _ _ _)); (fail_if_success (with_reducible show wpAny _ _ (eval (PySem.Expr.ListComp _ _ _ _) _) _ _ _)); (fail_if_success (with_reducible show wpAny _ _ (call (Value.builtin "sorted") _) _ _ _)); (fail_if_success (with_reducible show wpAny _ _ (execs (Stmt.Assign [PySem.Expr.Tuple _ _ _] _ _ :: _) _) _ _ _)); (fail_if_success (with_reducible show wpAny _ _ (compareOp _ (Value.ref _) (Value.ref _)) _ _ _)); (fail_if_success (with_reducible show wpAny _ _ (exec (Stmt.Assign _ (PySem.Expr.IfExp _ _ _ _) _) _) _ _ _)); (fail_if_success (with_reducible show JoinI _ _ _ _ _ _ _ _ _)); (fail_if_success (with_reducible show PyProof.Rows.LCg.CompSrc _ _ _ _ _ _ _ _ _ _ _ _ _ _)); (fail_if_success (with_reducible show FlEnd _ _ _ _ _ _ _ _ _ _ _)); (first | (k_unfold; (try dsimp only)) | (k_end; wrow_close) | walk1 | (dsimp only; walk1) | (dsimp only [List.cons_append, List.nil_append]; walk1) | (leave1; walk_say "STEP leave1"; try dsimp only) | fail "no step")))
          rename Fr _ _ _ _ => F16
          rename News _ _ _ _ => N16
          clear F15 N15
          replace N16 := kti_tail N16
          obtain ⟨tE, hval, dE, oE, ta, tb, tc, te, hmT, hmD, loE, DE⟩ : ∃ tE, valueAt kvs n = some (.ref tE) ∧ ∃ d o ta tb tc te, (tE, tup5 (totalP n word.length) (totalP n word.length + ((List.range word.length).map fun k => chW n k).sum) ((dueP sg word n).map fun p => p.1 * vfP (dueP sg word n) p.1).sum (n * totalP n word.length - ((dueP sg word n).map fun p => p.1 * vfP (dueP sg word n) p.1).sum) ta tb tc te d) ∈ rest ∧ (d, o) ∈ rest ∧ (d == sysModules) = false ∧ IsD w o e.2.2.2.2 := by
            rcases hbr.find n with ⟨_, h9⟩ | ⟨t9, e9, h8, h9, hent⟩
            · rw [G.hfind] at h9; cases h9
            · rw [G.hfind] at h9
              cases h9
              obtain ⟨d, o, ta, tb, tc, te, ha, hb, hc, hd9⟩ := hent.ex
              rw [G.h1, G.h2, G.h3, G.h4] at ha
              exact ⟨t9, h8, d, o, ta, tb, tc, te, ha, hb, hc, hd9⟩
          have hb1 := G.hb1
          have hb2 := G.hb2
          refine wpAny_If ?_
          (repeat' ((fail_if_success (with_reducible show wpAny _ _ (exec (Stmt.For _ _ _ _ _) _) _ _ _)); (fail_if_success (with_reducible show wpAny _ _ (pyIter _) _ _ _)); (fail_if_success (with_reducible show wpAny _ _ (call (Value.ref _) _) _ _ _)); (fail_if_success (with_reducible show wpAny _ _ (exec (Stmt.If _ _ _ _) _) _ _ _)); (fail_if_success (with_reducible show wpAny _ _ (exec (Stmt.Assign _ (PySem.Expr.DictComp _ _ _ _ _) _) _) _ _ _)); (fail_if_success (with_reducible show wpAny _ _ (eval (PySem.Expr.ListComp _ _ _ _) _) _ _ _)); (fail_if_success (with_reducible show wpAny _ _ (call (Value.builtin "sorted") _) _ _ _)); (fail_if_success (with_reducible show wpAny _ _ (execs (Stmt.Assign [PySem.Expr.Tuple _ _ _] _ _ :: _) _) _ _ _)); (fail_if_success (with_reducible show wpAny _ _ (compareOp _ (Value.ref _) (Value.ref _)) _ _ _)); (fail_if_success (with_reducible show wpAny _ _ (exec (Stmt.Assign _ (PySem.Expr.IfExp _ _ _ _) _) _) _ _ _)); (fail_if_success (with_reducible show JoinI _ _ _ _ _ _ _ _ _)); (fail_if_success (with_reducible show PyProof.Rows.LCg.CompSrc _ _ _ _ _ _ _ _ _ _ _ _ _ _)); (fail_if_success (with_reducible show FlEnd _ _ _ _ _ _ _ _ _ _ _)); (first | (k_unfold; (try dsimp only)) | (k_end; wrow_close) | walk1 | (dsimp only; walk1) | (dsimp only [List.cons_append, List.nil_append]; walk1) | (leave1; walk_say "STEP leave1"; try dsimp only) | fail "no step")))
          refine itemB N16 (by k_mem) hob hval ?_
          (repeat' ((fail_if_success (with_reducible show wpAny _ _ (exec (Stmt.For _ _ _ _ _) _) _ _ _)); (fail_if_success (with_reducible show wpAny _ _ (pyIter _) _ _ _)); (fail_if_success (with_reducible show wpAny _ _ (call (Value.ref _) _) _ _ _)); (fail_if_success (with_reducible show wpAny _ _ (exec (Stmt.If _ _ _ _) _) _ _ _)); (fail_if_success (with_reducible show wpAny _ _ (exec (Stmt.Assign _ (PySem.Expr.DictComp _ _ _ _ _) _) _) _ _ _)); (fail_if_success (with_reducible show wpAny _ _ (eval (PySem.Expr.ListComp _ _ _ _) _) _ _ _)); (fail_if_success (with_reducible show wpAny _ _ (call (Value.builtin "sorted") _) _ _ _)); (fail_if_success (with_reducible show wpAny _ _ (execs (Stmt.Assign [PySem.Expr.Tuple _ _ _] _ _ :: _) _) _ _ _)); (fail_if_success (with_reducible show wpAny _ _ (compareOp _ (Value.ref _) (Value.ref _)) _ _ _)); (fail_if_success (with_reducible show wpAny _ _ (exec (Stmt.Assign _ (PySem.Expr.IfExp _ _ _ _) _) _) _ _ _)); (fail_if_success (with_reducible show JoinI _ _ _ _ _ _ _ _ _)); (fail_if_success (with_reducible show PyProof.Rows.LCg.CompSrc _ _ _ _ _ _ _ _ _ _ _ _ _ _)); (fail_if_success (with_reducible show FlEnd _ _ _ _ _ _ _ _ _ _ _)); (first | (k_unfold; (try dsimp only)) | (k_end; wrow_close) | walk1 | (dsimp only; walk1) | (dsimp only [List.cons_append, List.nil_append]; walk1) | (leave1; walk_say "STEP leave1"; try dsimp only) | fail "no step")))
          rename Fr _ _ _ _ => F17
          rename News _ _ _ _ => N17
          refine neE N17 (by (repeat (refine List.mem_cons_of_mem _ ?_)); exact hmT) List.mem_cons_self (by (repeat (refine List.mem_cons_of_mem _ ?_)); exact hmD) (by k_mem) loE loD DE hDc G.h5 (Nat.ne_of_lt (hltD (dE, oE) (by (repeat (refine List.mem_cons_of_mem _ ?_)); exact hmD))) (by ktr_units) ?_
          (repeat' ((fail_if_success (with_reducible show wpAny _ _ (exec (Stmt.For _ _ _ _ _) _) _ _ _)); (fail_if_success (with_reducible show wpAny _ _ (pyIter _) _ _ _)); (fail_if_success (with_reducible show wpAny _ _ (call (Value.ref _) _) _ _ _)); (fail_if_success (with_reducible show wpAny _ _ (exec (Stmt.If _ _ _ _) _) _ _ _)); (fail_if_success (with_reducible show wpAny _ _ (exec (Stmt.Assign _ (PySem.Expr.DictComp _ _ _ _ _) _) _) _ _ _)); (fail_if_success (with_reducible show wpAny _ _ (eval (PySem.Expr.ListComp _ _ _ _) _) _ _ _)); (fail_if_success (with_reducible show wpAny _ _ (call (Value.builtin "sorted") _) _ _ _)); (fail_if_success (with_reducible show wpAny _ _ (execs (Stmt.Assign [PySem.Expr.Tuple _ _ _] _ _ :: _) _) _ _ _)); (fail_if_success (with_reducible show wpAny _ _ (compareOp _ (Value.ref _) (Value.ref _)) _ _ _)); (fail_if_success (with_reducible show wpAny _ _ (exec (Stmt.Assign _ (PySem.Expr.IfExp _ _ _ _) _) _) _ _ _)); (fail_if_success (with_reducible show JoinI _ _ _ _ _ _ _ _ _)); (fail_if_success (with_reducible show PyProof.Rows.LCg.CompSrc _ _ _ _ _ _ _ _ _ _ _ _ _ _)); (fail_if_success (with_reducible show FlEnd _ _ _ _ _ _ _ _ _ _ _)); (first | (k_unfold; (try dsimp only)) | (k_end; wrow_close) | walk1 | (dsimp only; walk1) | (dsimp only [List.cons_append, List.nil_append]; walk1) | (leave1; walk_say "STEP leave1"; try dsimp only) | fail "no step")))
          rename Fr _ _ _ _ => F18
          have N18 : News h₀ L _ ((tE, tup5 (totalP n word.length) (totalP n word.length + ((List.range word.length).map fun k => chW n k).sum) ((dueP sg word n).map fun p => p.1 * vfP (dueP sg word n) p.1).sum (n * totalP n word.length - ((dueP sg word n).map fun p => p.1 * vfP (dueP sg word n) p.1).sum) ta tb tc te dE) :: (dE, oE) :: (L + 1 + 1 + 1, o3') :: (L + 1 + 1, o2) :: (L + 1, o1) :: (Bk, ob) :: rest) := fun p hp => N17 p (by
            rcases List.mem_cons.mp hp with rfl | hp
            · (repeat (refine List.mem_cons_of_mem _ ?_)); exact hmT
            rcases List.mem_cons.mp hp with rfl | hp
            · (repeat (refine List.mem_cons_of_mem _ ?_)); exact hmD
            exact List.mem_cons_of_mem _ (List.mem_cons_of_mem _ (List.mem_cons_of_mem _ hp)))
          clear N17
          refine wpAny_If ?_
          (repeat' ((fail_if_success (with_reducible show wpAny _ _ (exec (Stmt.For _ _ _ _ _) _) _ _ _)); (fail_if_success (with_reducible show wpAny _ _ (pyIter _) _ _ _)); (fail_if_success (with_reducible show wpAny _ _ (call (Value.ref _) _) _ _ _)); (fail_if_success (with_reducible show wpAny _ _ (exec (Stmt.If _ _ _ _) _) _ _ _)); (fail_if_success (with_reducible show wpAny _ _ (exec (Stmt.Assign _ (PySem.Expr.DictComp _ _ _ _ _) _) _) _ _ _)); (fail_if_success (with_reducible show wpAny _ _ (eval (PySem.Expr.ListComp _ _ _ _) _) _ _ _)); (fail_if_success (with_reducible show wpAny _ _ (call (Value.builtin "sorted") _) _ _ _)); (fail_if_success (with_reducible show wpAny _ _ (execs (Stmt.Assign [PySem.Expr.Tuple _ _ _] _ _ :: _) _) _ _ _)); (fail_if_success (with_reducible show wpAny _ _ (compareOp _ (Value.ref _) (Value.ref _)) _ _ _)); (fail_if_success (with_reducible show wpAny _ _ (exec (Stmt.Assign _ (PySem.Expr.IfExp _ _ _ _) _) _) _ _ _)); (fail_if_success (with_reducible show JoinI _ _ _ _ _ _ _ _ _)); (fail_if_success (with_reducible show PyProof.Rows.LCg.CompSrc _ _ _ _ _ _ _ _ _ _ _ _ _ _)); (fail_if_success (with_reducible show FlEnd _ _ _ _ _ _ _ _ _ _ _)); (first | (k_unfold; (try dsimp only)) | (k_end; wrow_close) | walk1 | (dsimp only; walk1) | (dsimp only [List.cons_append, List.nil_append]; walk1) | (leave1; walk_say "STEP leave1"; try dsimp only) | fail "no step")))
          refine itemB N18 (by k_mem) hob hval ?_
          (repeat' ((fail_if_success (with_reducible show wpAny _ _ (exec (Stmt.For _ _ _ _ _) _) _ _ _)); (fail_if_success (with_reducible show wpAny _ _ (pyIter _) _ _ _)); (fail_if_success (with_reducible show wpAny _ _ (call (Value.ref _) _) _ _ _)); (fail_if_success (with_reducible show wpAny _ _ (exec (Stmt.If _ _ _ _) _) _ _ _)); (fail_if_success (with_reducible show wpAny _ _ (exec (Stmt.Assign _ (PySem.Expr.DictComp _ _ _ _ _) _) _) _ _ _)); (fail_if_success (with_reducible show wpAny _ _ (eval (PySem.Expr.ListComp _ _ _ _) _) _ _ _)); (fail_if_success (with_reducible show wpAny _ _ (call (Value.builtin "sorted") _) _ _ _)); (fail_if_success (with_reducible show wpAny _ _ (execs (Stmt.Assign [PySem.Expr.Tuple _ _ _] _ _ :: _) _) _ _ _)); (fail_if_success (with_reducible show wpAny _ _ (compareOp _ (Value.ref _) (Value.ref _)) _ _ _)); (fail_if_success (with_reducible show wpAny _ _ (exec (Stmt.Assign _ (PySem.Expr.IfExp _ _ _ _) _) _) _ _ _)); (fail_if_success (with_reducible show JoinI _ _ _ _ _ _ _ _ _)); (fail_if_success (with_reducible show PyProof.Rows.LCg.CompSrc _ _ _ _ _ _ _ _ _ _ _ _ _ _)); (fail_if_success (with_reducible show FlEnd _ _ _ _ _ _ _ _ _ _ _)); (first | (k_unfold; (try dsimp only)) | (k_end; wrow_close) | walk1 | (dsimp only; walk1) | (dsimp only [List.cons_append, List.nil_append]; walk1) | (leave1; walk_say "STEP leave1"; try dsimp only) | fail "no step")))
          k_dflt (refine' spec_use (cc_spec w dE oE _ _ ?c1 loE DE) ?k1 ?k2 ?k3 N18 ?k5 ?k6 ?k7 ?k8 ?_)
          (case c1 => k_mem)
          (case k1 => k_asm); (case k2 => k_asm); (case k3 => k_asm); (case k5 => k_asm); (case k6 => exact rfl); (case k7 => ktr_room); (case k8 => ktr_units)
          rintro r' news' h' tk' ⟨⟨tr, rfl⟩, rfl⟩ F19 N19
          rw [G.h6]
          (repeat' ((fail_if_success (with_reducible show wpAny _ _ (exec (Stmt.For _ _ _ _ _) _) _ _ _)); (fail_if_success (with_reducible show wpAny _ _ (pyIter _) _ _ _)); (fail_if_success (with_reducible show wpAny _ _ (call (Value.ref _) _) _ _ _)); (fail_if_success (with_reducible show wpAny _ _ (exec (Stmt.If _ _ _ _) _) _ _ _)); (fail_if_success (with_reducible show wpAny _ _ (exec (Stmt.Assign _ (PySem.Expr.DictComp _ _ _ _ _) _) _) _ _ _)); (fail_if_success (with_reducible show wpAny _ _ (eval (PySem.Expr.ListComp _ _ _ _) _) _ _ _)); (fail_if_success (with_reducible show wpAny _ _ (call (Value.builtin "sorted") _) _ _ _)); (fail_if_success (with_reducible show wpAny _ _ (execs (Stmt.Assign [PySem.Expr.Tuple _ _ _] _ _ :: _) _) _ _ _)); (fail_if_success (with_reducible show wpAny _ _ (compareOp _ (Value.ref _) (Value.ref _)) _ _ _)); (fail_if_success (with_reducible show wpAny _ _ (exec (Stmt.Assign _ (PySem.Expr.IfExp _ _ _ _) _) _) _ _ _)); (fail_if_success (with_reducible show JoinI _ _ _ _ _ _ _ _ _)); (fail_if_success (with_reducible show PyProof.Rows.LCg.CompSrc _ _ _ _ _ _ _ _ _ _ _ _ _ _)); (fail_if_success (with_reducible show FlEnd _ _ _ _ _ _ _ _ _ _ _)); (first | (k_unfold; (try dsimp only)) | (k_end; wrow_close) | walk1 | (dsimp only; walk1) | (dsimp only [List.cons_append, List.nil_append]; walk1) | (leave1; walk_say "STEP leave1"; try dsimp only) | fail "no step")))
          · exact absurd rfl (by assumption)
          · exact hret _ _ _ _ o3' _ F19 N19 (fun p hp => List.mem_cons_of_mem _ (List.mem_cons_of_mem _ hp)) h3' (List.forall_mem_cons.mpr ⟨by rfl, List.forall_mem_cons.mpr ⟨by rfl, List.forall_mem_cons.mpr ⟨by rfl, List.forall_mem_nil _⟩⟩⟩) (by ksw_same)
end
section
theorem law_tail2 (w : World) {name qual : Str} {params : Arguments} {body : List Stmt} {scope : Scope} {dV kV doc pm cdv ct oc : Value} {an od : Option Addr} {osl : Array (Option Value)}
    (ho : (Mine.hd.heap_39 w.params).lookup 101 = some ⟨oc, od, .func (fnOf name qual params body scope dV kV doc pm an cdv ct), osl⟩)
    (mean : ExcName → Option Value) (mg mb : Str → Option Value) (dp un : Nat) (gd : Option (List Code)) (f : Addr) (cd : Value) (outer : List Env) (A₀ : Around) (base h₀ : Heap) (L : Addr) (m : Str → Option Value) (s : Shared) (Q : Flow → Shared → Prop) (E : Value → Shared → Prop)
    (B : Below A₀ base outer h₀) (word : Str) (tw : Tok) (F : Fr h₀ L s.heap (fun y => if y = Str.ofString "word" then some (.str word tw) else m y)) (X : (Mine.hd.heap_39 w.params).In h₀) (T : Top Mine.hd.view_39 (looseW Mine.hd.view_39 []) mean mg mb h₀)
    (hd : dp + 6 < recursionLimit) (hu : un + 200 < cLine)
    (o1 o2 o3 : Obj) (tsg : Tok) (N : News h₀ L s.heap [(L + 1 + 1 + 1, o3), (L + 1 + 1, o2), (L + 1, o1)]) (sg : Str) (mid : List Str) (R : List Str × Book) (H : LawFacts sg word mid R) (hs2 : sg.length = 2) (h1 : o1.data = .cell (some (.str sg tsg))) (h2 : o2.data = .cell none) (h3 : o3.data = .cell none)
    (hE : PassesOwn (model PySem.Challenge.rw_pg0125_01.row.prog w) (ktrTop dp un gd qual scope L f cd (cellsFrom (L + 1) scope.names []) outer) (envOfC qual scope L f cd) E)
    (hret : ∀ h' tk' m' news', Fr h₀ L h' m' → News h₀ L h' news' → Q (.ret (.bool true)) { s with heap := h', toks := tk' }) :
    wpAny (model PySem.Challenge.rw_pg0125_01.row.prog w) (ktrTop dp un gd qual scope L f cd (cellsFrom (L + 1) scope.names []) outer) (execs (body.drop 3) (envOfC qual scope L f cd)) Q E s := by
  w_top off
  revert ho X T
  k_fill
  intro ho X T
  refine (fun (h9 : (Mine.hd.heap_39 w.params).lookup 101 = some ⟨_, _, .func (fnOf _ _ _ _ _ _ _ _ _ _ _ _), _⟩) => ?_) (by k_is)
  have hk := ho
  rw [ho] at h9
  cases h9
  clear ho
  simp only [List.drop_succ_cons, List.drop_zero]
  walk1
  (repeat' ((fail_if_success (with_reducible show wpAny _ _ (exec (Stmt.For _ _ _ _ _) _) _ _ _)); (fail_if_success (with_reducible show wpAny _ _ (pyIter _) _ _ _)); (fail_if_success (with_reducible show wpAny _ _ (call (Value.ref _) _) _ _ _)); (fail_if_success (with_reducible show wpAny _ _ (exec (Stmt.If _ _ _ _) _) _ _ _)); (fail_if_success (with_reducible show wpAny _ _ (exec (Stmt.Assign _ (PySem.Expr.DictComp _ _ _ _ _) _) _) _ _ _)); (fail_if_success (with_reducible show wpAny _ _ (eval (PySem.Expr.ListComp _ _ _ _) _) _ _ _)); (fail_if_success (with_reducible show wpAny _ _ (call (Value.builtin "sorted") _) _ _ _)); (fail_if_success (with_reducible show wpAny _ _ (execs (Stmt.Assign [PySem.Expr.Tuple _ _ _] _ _ :: _) _) _ _ _)); (fail_if_success (with_reducible show wpAny _ _ (compareOp _ (Value.ref _) (Value.ref _)) _ _ _)); (fail_if_success (with_reducible show wpAny _ _ (exec (Stmt.Assign _ (PySem.Expr.IfExp _ _ _ _) _) _) _ _ _)); (fail_if_success (with_reducible show JoinI _ _ _ _ _ _ _ _ _)); (fail_if_success (with_reducible show PyProof.Rows.LCg.CompSrc _ _ _ _ _ _ _ _ _ _ _ _ _ _)); (fail_if_success (with_reducible show FlEnd _ _ _ _ _ _ _ _ _ _ _)); (first | (k_unfold; (try dsimp only)) | (k_end; wrow_close) | walk1 | (dsimp only; walk1) | (dsimp only [List.cons_append, List.nil_append]; walk1) | (leave1; walk_say "STEP leave1"; try dsimp only) | fail "no step")))
  k_dflt (refine' spec_use (grown_spec w word _ _ _ sg [(L + 1 + 1 + 1, o3), (L + 1 + 1, o2), (L + 1, o1)] mid R H.hs2 H.hl0 H.hl1 H.hw H.hwl H.hjl H.hin H.hsp H.hmid H.hrun) ?k1 ?k2 ?k3 ?k4 ?k5 ?k6 ?k7 ?k8 ?_)
  (case k4 => k_asm)
  (case k1 => k_asm); (case k2 => k_asm); (case k3 => k_asm); (case k5 => k_asm); (case k6 => exact rfl); (case k7 => ktr_room); (case k8 => ktr_units)
  rintro r' news' h' tk' ⟨Tt, Nt, Bk, nts, en, ob, kvs, made, rfl, rfl, hnts, hob, hbr, loB, hltN, hNB, hmade⟩ F1 N1
  (repeat' ((fail_if_success (with_reducible show wpAny _ _ (exec (Stmt.For _ _ _ _ _) _) _ _ _)); (fail_if_success (with_reducible show wpAny _ _ (pyIter _) _ _ _)); (fail_if_success (with_reducible show wpAny _ _ (call (Value.ref _) _) _ _ _)); (fail_if_success (with_reducible show wpAny _ _ (exec (Stmt.If _ _ _ _) _) _ _ _)); (fail_if_success (with_reducible show wpAny _ _ (exec (Stmt.Assign _ (PySem.Expr.DictComp _ _ _ _ _) _) _) _ _ _)); (fail_if_success (with_reducible show wpAny _ _ (eval (PySem.Expr.ListComp _ _ _ _) _) _ _ _)); (fail_if_success (with_reducible show wpAny _ _ (call (Value.builtin "sorted") _) _ _ _)); (fail_if_success (with_reducible show wpAny _ _ (execs (Stmt.Assign [PySem.Expr.Tuple _ _ _] _ _ :: _) _) _ _ _)); (fail_if_success (with_reducible show wpAny _ _ (compareOp _ (Value.ref _) (Value.ref _)) _ _ _)); (fail_if_success (with_reducible show wpAny _ _ (exec (Stmt.Assign _ (PySem.Expr.IfExp _ _ _ _) _) _) _ _ _)); (fail_if_success (with_reducible show JoinI _ _ _ _ _ _ _ _ _)); (fail_if_success (with_reducible show PyProof.Rows.LCg.CompSrc _ _ _ _ _ _ _ _ _ _ _ _ _ _)); (fail_if_success (with_reducible show FlEnd _ _ _ _ _ _ _ _ _ _ _)); (first | (k_unfold; (try dsimp only)) | (k_end; wrow_close) | walk1 | (dsimp only; walk1) | (dsimp only [List.cons_append, List.nil_append]; walk1) | (leave1; walk_say "STEP leave1"; try dsimp only) | fail "no step")))
  rename News _ _ _ _ => N2
  replace N2 : News h₀ L _ ((L + 1 + 1 + 1, o3) :: (L + 1 + 1, o2) :: (L + 1, o1) :: (Nt, listOf (strL nts).toArray en) :: (Bk, ob) :: made) := fun p hp => N2 p (by simp only [List.mem_cons, List.mem_append, List.not_mem_nil, or_false] at hp ⊢; rcases hp with h | h | h | h | h | h <;> simp [h])
  refine wpAny_If ?_
  (repeat' ((fail_if_success (with_reducible show wpAny _ _ (exec (Stmt.For _ _ _ _ _) _) _ _ _)); (fail_if_success (with_reducible show wpAny _ _ (pyIter _) _ _ _)); (fail_if_success (with_reducible show wpAny _ _ (call (Value.ref _) _) _ _ _)); (fail_if_success (with_reducible show wpAny _ _ (exec (Stmt.If _ _ _ _) _) _ _ _)); (fail_if_success (with_reducible show wpAny _ _ (exec (Stmt.Assign _ (PySem.Expr.DictComp _ _ _ _ _) _) _) _ _ _)); (fail_if_success (with_reducible show wpAny _ _ (eval (PySem.Expr.ListComp _ _ _ _) _) _ _ _)); (fail_if_success (with_reducible show wpAny _ _ (call (Value.builtin "sorted") _) _ _ _)); (fail_if_success (with_reducible show wpAny _ _ (execs (Stmt.Assign [PySem.Expr.Tuple _ _ _] _ _ :: _) _) _ _ _)); (fail_if_success (with_reducible show wpAny _ _ (compareOp _ (Value.ref _) (Value.ref _)) _ _ _)); (fail_if_success (with_reducible show wpAny _ _ (exec (Stmt.Assign _ (PySem.Expr.IfExp _ _ _ _) _) _) _ _ _)); (fail_if_success (with_reducible show JoinI _ _ _ _ _ _ _ _ _)); (fail_if_success (with_reducible show PyProof.Rows.LCg.CompSrc _ _ _ _ _ _ _ _ _ _ _ _ _ _)); (fail_if_success (with_reducible show FlEnd _ _ _ _ _ _ _ _ _ _ _)); (first | (k_unfold; (try dsimp only)) | (k_end; wrow_close) | walk1 | (dsimp only; walk1) | (dsimp only [List.cons_append, List.nil_append]; walk1) | (leave1; walk_say "STEP leave1"; try dsimp only) | fail "no step")))
  k_dflt (refine' spec_use (laid_spec w word sg _ _ _ _ H.hs2 H.hl0 H.hl1 H.hw H.ha H.hlen) ?k1 ?k2 ?k3 N2 ?k5 ?k6 ?k7 ?k8 ?_)
  (case k1 => k_asm); (case k2 => k_asm); (case k3 => k_asm); (case k5 => k_asm); (case k6 => exact rfl); (case k7 => ktr_room); (case k8 => ktr_units)
  rintro r' news' h' tk' ⟨dL, ts, nL, rfl, rfl, hltL, hpL, hsL⟩ F3 N3
  have hnl : nts.map (·.1) = ts.map (·.1) := by
    rw [hnts]
    exact sorted_uniq H.hsort hsL (H.hperm.trans hpL.symm)
  have hokt : ∀ x ∈ nts.map (·.1), PyData.strOk x = true := by rw [hnts]; exact H.hok
  (repeat' ((fail_if_success (with_reducible show wpAny _ _ (exec (Stmt.For _ _ _ _ _) _) _ _ _)); (fail_if_success (with_reducible show wpAny _ _ (pyIter _) _ _ _)); (fail_if_success (with_reducible show wpAny _ _ (call (Value.ref _) _) _ _ _)); (fail_if_success (with_reducible show wpAny _ _ (exec (Stmt.If _ _ _ _) _) _ _ _)); (fail_if_success (with_reducible show wpAny _ _ (exec (Stmt.Assign _ (PySem.Expr.DictComp _ _ _ _ _) _) _) _ _ _)); (fail_if_success (with_reducible show wpAny _ _ (eval (PySem.Expr.ListComp _ _ _ _) _) _ _ _)); (fail_if_success (with_reducible show wpAny _ _ (call (Value.builtin "sorted") _) _ _ _)); (fail_if_success (with_reducible show wpAny _ _ (execs (Stmt.Assign [PySem.Expr.Tuple _ _ _] _ _ :: _) _) _ _ _)); (fail_if_success (with_reducible show wpAny _ _ (compareOp _ (Value.ref _) (Value.ref _)) _ _ _)); (fail_if_success (with_reducible show wpAny _ _ (exec (Stmt.Assign _ (PySem.Expr.IfExp _ _ _ _) _) _) _ _ _)); (fail_if_success (with_reducible show JoinI _ _ _ _ _ _ _ _ _)); (fail_if_success (with_reducible show PyProof.Rows.LCg.CompSrc _ _ _ _ _ _ _ _ _ _ _ _ _ _)); (fail_if_success (with_reducible show FlEnd _ _ _ _ _ _ _ _ _ _ _)); (first | (k_unfold; (try dsimp only)) | (k_end; wrow_close) | walk1 | (dsimp only; walk1) | (dsimp only [List.cons_append, List.nil_append]; walk1) | (leave1; walk_say "STEP leave1"; try dsimp only) | fail "no step")))
  refine ne_S N3 (by k_mem) List.mem_cons_self hokt (hnl ▸ hokt) (by ktr_units) ?_
  rw [decide_eq_true hnl]
  (repeat' ((fail_if_success (with_reducible show wpAny _ _ (exec (Stmt.For _ _ _ _ _) _) _ _ _)); (fail_if_success (with_reducible show wpAny _ _ (pyIter _) _ _ _)); (fail_if_success (with_reducible show wpAny _ _ (call (Value.ref _) _) _ _ _)); (fail_if_success (with_reducible show wpAny _ _ (exec (Stmt.If _ _ _ _) _) _ _ _)); (fail_if_success (with_reducible show wpAny _ _ (exec (Stmt.Assign _ (PySem.Expr.DictComp _ _ _ _ _) _) _) _ _ _)); (fail_if_success (with_reducible show wpAny _ _ (eval (PySem.Expr.ListComp _ _ _ _) _) _ _ _)); (fail_if_success (with_reducible show wpAny _ _ (call (Value.builtin "sorted") _) _ _ _)); (fail_if_success (with_reducible show wpAny _ _ (execs (Stmt.Assign [PySem.Expr.Tuple _ _ _] _ _ :: _) _) _ _ _)); (fail_if_success (with_reducible show wpAny _ _ (compareOp _ (Value.ref _) (Value.ref _)) _ _ _)); (fail_if_success (with_reducible show wpAny _ _ (exec (Stmt.Assign _ (PySem.Expr.IfExp _ _ _ _) _) _) _ _ _)); (fail_if_success (with_reducible show JoinI _ _ _ _ _ _ _ _ _)); (fail_if_success (with_reducible show PyProof.Rows.LCg.CompSrc _ _ _ _ _ _ _ _ _ _ _ _ _ _)); (fail_if_success (with_reducible show FlEnd _ _ _ _ _ _ _ _ _ _ _)); (first | (k_unfold; (try dsimp only)) | (k_end; wrow_close) | walk1 | (dsimp only; walk1) | (dsimp only [List.cons_append, List.nil_append]; walk1) | (leave1; walk_say "STEP leave1"; try dsimp only) | fail "no step")))
  rename Fr _ _ _ _ => F4
  rename News _ _ _ _ => N4
  have hkl : kvs.map (·.1) = R.2.map (·.1) := hbr.keys
  have hkn : kvs.length = R.2.length := hbr.length
  refine sortedB (q := [0, 1, 2, 3, 4, 5]) rfl F4 N4 (by k_mem) loB hob (by rw [hkl]; exact H.hbook) (by rw [hkn]; exact H.hbl) (by rw [hkn]; exact H.hbm) ?_
  intro dS vS nS h5 tk5 F5 N5 hlS hIS
  (repeat' ((fail_if_success (with_reducible show wpAny _ _ (exec (Stmt.For _ _ _ _ _) _) _ _ _)); (fail_if_success (with_reducible show wpAny _ _ (pyIter _) _ _ _)); (fail_if_success (with_reducible show wpAny _ _ (call (Value.ref _) _) _ _ _)); (fail_if_success (with_reducible show wpAny _ _ (exec (Stmt.If _ _ _ _) _) _ _ _)); (fail_if_success (with_reducible show wpAny _ _ (exec (Stmt.Assign _ (PySem.Expr.DictComp _ _ _ _ _) _) _) _ _ _)); (fail_if_success (with_reducible show wpAny _ _ (eval (PySem.Expr.ListComp _ _ _ _) _) _ _ _)); (fail_if_success (with_reducible show wpAny _ _ (call (Value.builtin "sorted") _) _ _ _)); (fail_if_success (with_reducible show wpAny _ _ (execs (Stmt.Assign [PySem.Expr.Tuple _ _ _] _ _ :: _) _) _ _ _)); (fail_if_success (with_reducible show wpAny _ _ (compareOp _ (Value.ref _) (Value.ref _)) _ _ _)); (fail_if_success (with_reducible show wpAny _ _ (exec (Stmt.Assign _ (PySem.Expr.IfExp _ _ _ _) _) _) _ _ _)); (fail_if_success (with_reducible show JoinI _ _ _ _ _ _ _ _ _)); (fail_if_success (with_reducible show PyProof.Rows.LCg.CompSrc _ _ _ _ _ _ _ _ _ _ _ _ _ _)); (fail_if_success (with_reducible show FlEnd _ _ _ _ _ _ _ _ _ _ _)); (first | (k_unfold; (try dsimp only)) | (k_end; wrow_close) | walk1 | (dsimp only; walk1) | (dsimp only [List.cons_append, List.nil_append]; walk1) | (leave1; walk_say "STEP leave1"; try dsimp only) | fail "no step")))
  refine ke_ne_ints (ms := [0, 1, 2, 3, 4, 5]) (News.isList (by k_asm) (by k_mem)) (News.isList (by k_asm) (by k_mem)) hIS (by repeat constructor) (by ktr_units) ?_
  rw [decide_eq_true rfl]
  (repeat' ((fail_if_success (with_reducible show wpAny _ _ (exec (Stmt.For _ _ _ _ _) _) _ _ _)); (fail_if_success (with_reducible show wpAny _ _ (pyIter _) _ _ _)); (fail_if_success (with_reducible show wpAny _ _ (call (Value.ref _) _) _ _ _)); (fail_if_success (with_reducible show wpAny _ _ (exec (Stmt.If _ _ _ _) _) _ _ _)); (fail_if_success (with_reducible show wpAny _ _ (exec (Stmt.Assign _ (PySem.Expr.DictComp _ _ _ _ _) _) _) _ _ _)); (fail_if_success (with_reducible show wpAny _ _ (eval (PySem.Expr.ListComp _ _ _ _) _) _ _ _)); (fail_if_success (with_reducible show wpAny _ _ (call (Value.builtin "sorted") _) _ _ _)); (fail_if_success (with_reducible show wpAny _ _ (execs (Stmt.Assign [PySem.Expr.Tuple _ _ _] _ _ :: _) _) _ _ _)); (fail_if_success (with_reducible show wpAny _ _ (compareOp _ (Value.ref _) (Value.ref _)) _ _ _)); (fail_if_success (with_reducible show wpAny _ _ (exec (Stmt.Assign _ (PySem.Expr.IfExp _ _ _ _) _) _) _ _ _)); (fail_if_success (with_reducible show JoinI _ _ _ _ _ _ _ _ _)); (fail_if_success (with_reducible show PyProof.Rows.LCg.CompSrc _ _ _ _ _ _ _ _ _ _ _ _ _ _)); (fail_if_success (with_reducible show FlEnd _ _ _ _ _ _ _ _ _ _ _)); (first | (k_unfold; (try dsimp only)) | (k_end; wrow_close) | walk1 | (dsimp only; walk1) | (dsimp only [List.cons_append, List.nil_append]; walk1) | (leave1; walk_say "STEP leave1"; try dsimp only) | fail "no step")))
  rename Fr _ _ _ _ => F6
  rename News _ _ _ _ => N6
  refine For_turns (hE := hE) F6 ?_
  (repeat' ((fail_if_success (with_reducible show wpAny _ _ (exec (Stmt.For _ _ _ _ _) _) _ _ _)); (fail_if_success (with_reducible show wpAny _ _ (pyIter _) _ _ _)); (fail_if_success (with_reducible show wpAny _ _ (call (Value.ref _) _) _ _ _)); (fail_if_success (with_reducible show wpAny _ _ (exec (Stmt.If _ _ _ _) _) _ _ _)); (fail_if_success (with_reducible show wpAny _ _ (exec (Stmt.Assign _ (PySem.Expr.DictComp _ _ _ _ _) _) _) _ _ _)); (fail_if_success (with_reducible show wpAny _ _ (eval (PySem.Expr.ListComp _ _ _ _) _) _ _ _)); (fail_if_success (with_reducible show wpAny _ _ (call (Value.builtin "sorted") _) _ _ _)); (fail_if_success (with_reducible show wpAny _ _ (execs (Stmt.Assign [PySem.Expr.Tuple _ _ _] _ _ :: _) _) _ _ _)); (fail_if_success (with_reducible show wpAny _ _ (compareOp _ (Value.ref _) (Value.ref _)) _ _ _)); (fail_if_success (with_reducible show wpAny _ _ (exec (Stmt.Assign _ (PySem.Expr.IfExp _ _ _ _) _) _) _ _ _)); (fail_if_success (with_reducible show JoinI _ _ _ _ _ _ _ _ _)); (fail_if_success (with_reducible show PyProof.Rows.LCg.CompSrc _ _ _ _ _ _ _ _ _ _ _ _ _ _)); (fail_if_success (with_reducible show FlEnd _ _ _ _ _ _ _ _ _ _ _)); (first | (k_unfold; (try dsimp only)) | (k_end; wrow_close) | walk1 | (dsimp only; walk1) | (dsimp only [List.cons_append, List.nil_append]; walk1) | (leave1; walk_say "STEP leave1"; try dsimp only) | fail "no step")))
  rename IsRange _ _ _ _ _ _ _ _ => hR
  rename Fr _ _ _ _ => F7
  rename News _ _ _ _ => N7
  have N8 : News h₀ L _ ((L + 1 + 1 + 1, o3) :: (L + 1 + 1, o2) :: (L + 1, o1) :: (Bk, ob) :: made) := fun p hp => N7 p (by simp only [List.mem_cons] at hp ⊢; rcases hp with h | h | h | h | h <;> simp [h])
  have hL3 : L + 1 + 1 + 1 < Bk := Nat.lt_trans (hltN (L + 1 + 1 + 1, o3) (by simp)) hNB
  have hmd : ∀ p ∈ made, L + 1 + 1 + 1 < p.1 := fun p hp => Nat.lt_trans hL3 (hmade p hp)
  refine iter_rangeTurns (n := 6) rfl hR (by decide) (by decide) F7 N8 ?_
  intro I hI
  refine' fl_rest (σ := Obj × Obj) (fun c => (L + 1 + 1 + 1, c.2) :: (L + 1 + 1, c.1) :: (L + 1, o1) :: (Bk, ob) :: made) (fun c => [(Str.ofString "ones", Value.int (Txt.count word (Txt.item sg 0)) ?to9), (Str.ofString "book", Value.ref Bk), (Str.ofString "word", Value.str word tw)]) [Str.ofString "callers", Str.ofString "total", Str.ofString "without", Str.ofString "times"] (fun r c => ∃ j, r = ((List.range 6).drop j).map (fun i => Itm.tok (fun u => .int (0 + ((i : Nat) : Int)) u)) ∧ (∃ q, c.1.data = .cell q) ∧ (∃ q, c.2.data = .cell q)) (o2, o3) _ ?g1 ?g2 ?g3 ?g4 ?g5
  case g1 => exact fun c => trivial
  case g2 => exact List.forall_mem_cons.mpr ⟨by rfl, List.forall_mem_cons.mpr ⟨by rfl, List.forall_mem_cons.mpr ⟨by rfl, List.forall_mem_nil _⟩⟩⟩
  case g3 => exact ⟨0, rfl, ⟨_, h2⟩, ⟨_, h3⟩⟩
  case g4 =>
    rintro it a9 r ⟨oN, oF⟩ u v h tk ⟨j, er, ⟨qN, hqN⟩, ⟨qF, hqF⟩⟩ hit hav F9 N9
    dsimp only [kstB] at F9 N9 hqN hqF
    cases er9 : (List.range 6).drop j with
    | nil => rw [er9] at er; cases er
    | cons c9 cs9 =>
    rw [er9] at er
    injection er with e1 e2
    subst e1 e2
    obtain ⟨t8, rfl⟩ := hav
    have hc9 : c9 < 6 := by
      have := List.mem_of_mem_drop (i := j) (l := List.range 6) (a := c9) (by rw [er9]; exact List.mem_cons_self)
      exact List.mem_range.mp this
    have hI2 : L + 1 + 1 < I := hI (L + 1 + 1, o2) (by simp)
    have hI3 : L + 1 + 1 + 1 < I := hI (L + 1 + 1 + 1, o3) (by simp)
    have hmn : ∀ p ∈ (Bk, ob) :: made, p.1 ≠ L + 1 + 1 := List.forall_mem_cons.mpr ⟨Nat.ne_of_gt (Nat.lt_trans (Nat.lt_succ_self _) hL3), fun p hp => Nat.ne_of_gt (Nat.lt_trans (Nat.lt_succ_self _) (hmd p hp))⟩
    (repeat' ((fail_if_success (with_reducible show wpAny _ _ (exec (Stmt.For _ _ _ _ _) _) _ _ _)); (fail_if_success (with_reducible show wpAny _ _ (pyIter _) _ _ _)); (fail_if_success (with_reducible show wpAny _ _ (call (Value.ref _) _) _ _ _)); (fail_if_success (with_reducible show wpAny _ _ (exec (Stmt.If _ _ _ _) _) _ _ _)); (fail_if_success (with_reducible show wpAny _ _ (exec (Stmt.Assign _ (PySem.Expr.DictComp _ _ _ _ _) _) _) _ _ _)); (fail_if_success (with_reducible show wpAny _ _ (eval (PySem.Expr.ListComp _ _ _ _) _) _ _ _)); (fail_if_success (with_reducible show wpAny _ _ (call (Value.builtin "sorted") _) _ _ _)); (fail_if_success (with_reducible show wpAny _ _ (execs (Stmt.Assign [PySem.Expr.Tuple _ _ _] _ _ :: _) _) _ _ _)); (fail_if_success (with_reducible show wpAny _ _ (compareOp _ (Value.ref _) (Value.ref _)) _ _ _)); (fail_if_success (with_reducible show wpAny _ _ (exec (Stmt.Assign _ (PySem.Expr.IfExp _ _ _ _) _) _) _ _ _)); (fail_if_success (with_reducible show JoinI _ _ _ _ _ _ _ _ _)); (fail_if_success (with_reducible show PyProof.Rows.LCg.CompSrc _ _ _ _ _ _ _ _ _ _ _ _ _ _)); (fail_if_success (with_reducible show FlEnd _ _ _ _ _ _ _ _ _ _ _)); (first | (k_unfold; (try dsimp only)) | (k_end; wrow_close) | walk1 | (dsimp only; walk1) | (dsimp only [List.cons_append, List.nil_append]; walk1) | (leave1; walk_say "STEP leave1"; try dsimp only) | fail "no step")))
    refine' storeX_C (c := L + 1 + 1) F9 N9 ?sc (UpdF.tail (Nat.ne_of_gt hI2) (UpdF.tail (Nat.ne_of_gt (Nat.lt_succ_self _)) (UpdF.head ?sh))) hqN ?_ ?sa ?sb
    case sc => rfl
    case sa => rfl
    case sb => rfl
    case sh => exact List.forall_mem_cons.mpr ⟨Nat.ne_of_lt (Nat.lt_succ_self _), hmn⟩
    intro h10 oN' F10 N10 hN'
    obtain ⟨e, G⟩ := H.hturn (0 + (c9 : Int)) (by omega) (by omega)
    refine law_turn w hk mean mg mb dp un gd f cd outer A₀ base h₀ L _ _ _ _ word tw _ tsg sg Bk B F10 X T hd hu o1 oN' oF ob ((I, it) :: made) (fun p hp => N10 p ?_) ?_ mid R H (0 + (c9 : Int)) t8 (by omega) (by omega) e G h1 hN' qF hqF kvs hob loB (hbr.mono fun p hp => List.mem_cons_of_mem _ hp) ?_
    · simp only [List.mem_cons] at hp ⊢
      rcases hp with h | h | h | h | h | h <;> simp [h]
    · exact List.forall_mem_cons.mpr ⟨hL3, List.forall_mem_cons.mpr ⟨hI3, hmd⟩⟩
    · intro h' tk' m' news' o3' q' F' N' hsub hq' hps hz
      refine fl_end (oN', o3') F' N' (fun p hp => hsub p ?_) ?_ hps (fun z hz1 hz2 => ?_) ⟨j + 1, ?_, ⟨_, hN'⟩, ⟨_, hq'⟩⟩
      · simp only [List.mem_cons] at hp ⊢
        rcases hp with h | h | h | h | h | h <;> simp [h]
      · exact List.forall_mem_cons.mpr ⟨Nat.ne_of_lt hI3, List.forall_mem_cons.mpr ⟨Nat.ne_of_lt hI2, List.forall_mem_cons.mpr ⟨Nat.ne_of_lt (hI (L + 1, o1) (by simp)), List.forall_mem_cons.mpr ⟨Nat.ne_of_lt (hI (Bk, ob) (by simp)), fun p hp => Nat.ne_of_lt (hI p (by simp [hp]))⟩⟩⟩⟩
      · rw [hz z hz1 hz2, if_neg (by rw [hz2]; exact Bool.false_ne_true)]
      · rw [← List.drop_drop, er9]; rfl
  case g5 =>
    rintro ⟨oN, oF⟩ u h tk ⟨j, er, _, _⟩ F9 N9
    dsimp only [kstB] at F9 N9
    (repeat' ((fail_if_success (with_reducible show wpAny _ _ (exec (Stmt.For _ _ _ _ _) _) _ _ _)); (fail_if_success (with_reducible show wpAny _ _ (pyIter _) _ _ _)); (fail_if_success (with_reducible show wpAny _ _ (call (Value.ref _) _) _ _ _)); (fail_if_success (with_reducible show wpAny _ _ (exec (Stmt.If _ _ _ _) _) _ _ _)); (fail_if_success (with_reducible show wpAny _ _ (exec (Stmt.Assign _ (PySem.Expr.DictComp _ _ _ _ _) _) _) _ _ _)); (fail_if_success (with_reducible show wpAny _ _ (eval (PySem.Expr.ListComp _ _ _ _) _) _ _ _)); (fail_if_success (with_reducible show wpAny _ _ (call (Value.builtin "sorted") _) _ _ _)); (fail_if_success (with_reducible show wpAny _ _ (execs (Stmt.Assign [PySem.Expr.Tuple _ _ _] _ _ :: _) _) _ _ _)); (fail_if_success (with_reducible show wpAny _ _ (compareOp _ (Value.ref _) (Value.ref _)) _ _ _)); (fail_if_success (with_reducible show wpAny _ _ (exec (Stmt.Assign _ (PySem.Expr.IfExp _ _ _ _) _) _) _ _ _)); (fail_if_success (with_reducible show JoinI _ _ _ _ _ _ _ _ _)); (fail_if_success (with_reducible show PyProof.Rows.LCg.CompSrc _ _ _ _ _ _ _ _ _ _ _ _ _ _)); (fail_if_success (with_reducible show FlEnd _ _ _ _ _ _ _ _ _ _ _)); (first | (k_unfold; (try dsimp only)) | (k_end; wrow_close) | walk1 | (dsimp only; walk1) | (dsimp only [List.cons_append, List.nil_append]; walk1) | (leave1; walk_say "STEP leave1"; try dsimp only) | fail "no step")))
    exact hret _ _ _ _ F9 N9
end
section
theorem law_tail (w : World) {name qual : Str} {params : Arguments} {body : List Stmt} {scope : Scope} {dV kV doc pm cdv ct oc : Value} {an od : Option Addr} {osl : Array (Option Value)}
    (ho : (Mine.hd.heap_39 w.params).lookup 101 = some ⟨oc, od, .func (fnOf name qual params body scope dV kV doc pm an cdv ct), osl⟩)
    (mean : ExcName → Option Value) (mg mb : Str → Option Value) (dp un : Nat) (gd : Option (List Code)) (f : Addr) (cd : Value) (outer : List Env) (A₀ : Around) (base h₀ : Heap) (L : Addr) (m : Str → Option Value) (s : Shared) (Q : Flow → Shared → Prop) (E : Value → Shared → Prop)
    (B : Below A₀ base outer h₀) (F : Fr h₀ L s.heap m) (X : (Mine.hd.heap_39 w.params).In h₀) (T : Top Mine.hd.view_39 (looseW Mine.hd.view_39 []) mean mg mb h₀)
    (hd : dp + 6 < recursionLimit) (hu : un + 200 < cLine)
    (o1 o2 o3 : Obj) (tsg : Tok) (D : Addr) (ws : List Value) (n0 : Nat) (N : News h₀ L s.heap [(D, listOf ws.toArray n0), (L + 1 + 1 + 1, o3), (L + 1 + 1, o2), (L + 1, o1)]) (sg : Str) (ds : List Int) (hd4 : ds.length ≤ 4) (mid : List Str) (R : List Str × Book) (H : LawFacts sg (wordS sg ds) mid R) (h1 : o1.data = .cell (some (.str sg tsg))) (h2 : o2.data = .cell none) (h3 : o3.data = .cell none)
    (hI : IntsAre ws ds) (hm : m (Str.ofString "draws") = some (.ref D))
    (hE : PassesOwn (model PySem.Challenge.rw_pg0125_01.row.prog w) (ktrTop dp un gd qual scope L f cd (cellsFrom (L + 1) scope.names []) outer) (envOfC qual scope L f cd) E)
    (hret : ∀ h' tk' m' news', Fr h₀ L h' m' → News h₀ L h' news' → Q (.ret (.bool true)) { s with heap := h', toks := tk' }) :
    wpAny (model PySem.Challenge.rw_pg0125_01.row.prog w) (ktrTop dp un gd qual scope L f cd (cellsFrom (L + 1) scope.names []) outer) (execs (body.drop 2) (envOfC qual scope L f cd)) Q E s := by
  w_top off
  revert ho X T
  k_fill
  intro ho X T
  refine (fun (h9 : (Mine.hd.heap_39 w.params).lookup 101 = some ⟨_, _, .func (fnOf _ _ _ _ _ _ _ _ _ _ _ _), _⟩) => ?_) (by k_is)
  have hk := ho
  rw [ho] at h9
  cases h9
  clear ho
  simp only [List.drop_succ_cons, List.drop_zero]
  have hs2 := H.hs2
  (repeat' ((fail_if_success (with_reducible show wpAny _ _ (exec (Stmt.For _ _ _ _ _) _) _ _ _)); (fail_if_success (with_reducible show wpAny _ _ (pyIter _) _ _ _)); (fail_if_success (with_reducible show wpAny _ _ (call (Value.ref _) _) _ _ _)); (fail_if_success (with_reducible show wpAny _ _ (exec (Stmt.If _ _ _ _) _) _ _ _)); (fail_if_success (with_reducible show wpAny _ _ (exec (Stmt.Assign _ (PySem.Expr.DictComp _ _ _ _ _) _) _) _ _ _)); (fail_if_success (with_reducible show wpAny _ _ (eval (PySem.Expr.ListComp _ _ _ _) _) _ _ _)); (fail_if_success (with_reducible show wpAny _ _ (call (Value.builtin "sorted") _) _ _ _)); (fail_if_success (with_reducible show wpAny _ _ (execs (Stmt.Assign [PySem.Expr.Tuple _ _ _] _ _ :: _) _) _ _ _)); (fail_if_success (with_reducible show wpAny _ _ (compareOp _ (Value.ref _) (Value.ref _)) _ _ _)); (fail_if_success (with_reducible show wpAny _ _ (exec (Stmt.Assign _ (PySem.Expr.IfExp _ _ _ _) _) _) _ _ _)); (fail_if_success (with_reducible show JoinI _ _ _ _ _ _ _ _ _)); (fail_if_success (with_reducible show PyProof.Rows.LCg.CompSrc _ _ _ _ _ _ _ _ _ _ _ _ _ _)); (fail_if_success (with_reducible show FlEnd _ _ _ _ _ _ _ _ _ _ _)); (first | (k_unfold; (try dsimp only)) | (k_end; wrow_close) | walk1 | (dsimp only; walk1) | (dsimp only [List.cons_append, List.nil_append]; walk1) | (leave1; walk_say "STEP leave1"; try dsimp only) | fail "no step")))
  refine LCg.ListComp_U (F₀ := by k_asm) (by rfl) (by decide) (by rfl) (by decide) (by rfl) ?_
  refine nameX_L F hm ?_
  refine LCg.CompSrc.ledger rfl F N List.mem_cons_self (by rw [List.size_toArray, hI.length, sizeLine_eq]; omega) ?_
  intro g
  refine compRest_inv (fun i ys => ∃ its : List ST, ys = strL its ∧ its.map (·.1) = (ds.take i).map (fun d => Txt.item sg (d.fmod 2))) (Or.inr ⟨_, List.mem_cons_self, rfl, _, rfl⟩) ⟨[], rfl, rfl⟩ ?turn ?fin
  case turn =>
    rintro i ys v I oI C oC D9 m₂ h tk Q9 E9 hi ⟨its, rfl, hits⟩ hv hoC hm₂ F2 N2 hQ9
    obtain ⟨dv, tdv, rfl, hdv⟩ := hI.at i v (by simpa using hv)
    have hb0 : 0 ≤ dv.fmod 2 := Int.fmod_nonneg_of_pos _ (by decide)
    have hb1 : dv.fmod 2 < 2 := Int.fmod_lt_of_pos _ (by decide)
    (repeat' ((fail_if_success (with_reducible show wpAny _ _ (exec (Stmt.For _ _ _ _ _) _) _ _ _)); (fail_if_success (with_reducible show wpAny _ _ (pyIter _) _ _ _)); (fail_if_success (with_reducible show wpAny _ _ (call (Value.ref _) _) _ _ _)); (fail_if_success (with_reducible show wpAny _ _ (exec (Stmt.If _ _ _ _) _) _ _ _)); (fail_if_success (with_reducible show wpAny _ _ (exec (Stmt.Assign _ (PySem.Expr.DictComp _ _ _ _ _) _) _) _ _ _)); (fail_if_success (with_reducible show wpAny _ _ (eval (PySem.Expr.ListComp _ _ _ _) _) _ _ _)); (fail_if_success (with_reducible show wpAny _ _ (call (Value.builtin "sorted") _) _ _ _)); (fail_if_success (with_reducible show wpAny _ _ (execs (Stmt.Assign [PySem.Expr.Tuple _ _ _] _ _ :: _) _) _ _ _)); (fail_if_success (with_reducible show wpAny _ _ (compareOp _ (Value.ref _) (Value.ref _)) _ _ _)); (fail_if_success (with_reducible show wpAny _ _ (exec (Stmt.Assign _ (PySem.Expr.IfExp _ _ _ _) _) _) _ _ _)); (fail_if_success (with_reducible show JoinI _ _ _ _ _ _ _ _ _)); (fail_if_success (with_reducible show PyProof.Rows.LCg.CompSrc _ _ _ _ _ _ _ _ _ _ _ _ _ _)); (fail_if_success (with_reducible show FlEnd _ _ _ _ _ _ _ _ _ _ _)); (first | (k_unfold; (try dsimp only)) | (k_end; wrow_close) | walk1 | (dsimp only; walk1) | (dsimp only [List.cons_append, List.nil_append]; walk1) | (leave1; walk_say "STEP leave1"; try dsimp only) | fail "no step")))
    refine hQ9 _ _ _ F2 N2 ⟨its ++ [(_, _)], (by rw [strL, strL, List.map_append]; rfl), ?_⟩
    rw [List.map_append, hits, List.take_add_one, hdv, List.map_append]
    rfl
  case fin =>
    rintro ys ⟨its, rfl, hits⟩
    intro D9 h9 tk9 F9 N9 off9
    have hlen9 : its.length ≤ 4 := by
      have e := congrArg List.length hits
      rw [List.length_map, List.length_map, List.length_take] at e
      omega
    have hall : ∀ x ∈ its.map (·.1), x.length = 1 := by
      rw [hits]
      intro x hx
      obtain ⟨dv, _, rfl⟩ := List.mem_map.mp hx
      have hb0 : 0 ≤ dv.fmod 2 := Int.fmod_nonneg_of_pos _ (by decide)
      have hb1 : dv.fmod 2 < 2 := Int.fmod_lt_of_pos _ (by decide)
      have h01 : dv.fmod 2 = 0 ∨ dv.fmod 2 = 1 := by omega
      rcases h01 with e | e
      · rw [e]; exact H.hl0
      · rw [e]; exact H.hl1
    have hsum : ((its.map (·.1)).map (·.length)).sum ≤ 4 := by
      have : ∀ l : List Str, (∀ x ∈ l, x.length = 1) → (l.map (·.length)).sum = l.length := by
        intro l
        induction l with
        | nil => intro _; rfl
        | cons a r ih =>
          intro h
          rw [List.map_cons, List.sum_cons, h a List.mem_cons_self, ih fun x hx => h x (List.mem_cons_of_mem _ hx), List.length_cons]
          omega
      rw [this _ hall, List.length_map]
      exact hlen9
    (repeat' ((fail_if_success (with_reducible show wpAny _ _ (exec (Stmt.For _ _ _ _ _) _) _ _ _)); (fail_if_success (with_reducible show wpAny _ _ (pyIter _) _ _ _)); (fail_if_success (with_reducible show wpAny _ _ (call (Value.ref _) _) _ _ _)); (fail_if_success (with_reducible show wpAny _ _ (exec (Stmt.If _ _ _ _) _) _ _ _)); (fail_if_success (with_reducible show wpAny _ _ (exec (Stmt.Assign _ (PySem.Expr.DictComp _ _ _ _ _) _) _) _ _ _)); (fail_if_success (with_reducible show wpAny _ _ (eval (PySem.Expr.ListComp _ _ _ _) _) _ _ _)); (fail_if_success (with_reducible show wpAny _ _ (call (Value.builtin "sorted") _) _ _ _)); (fail_if_success (with_reducible show wpAny _ _ (execs (Stmt.Assign [PySem.Expr.Tuple _ _ _] _ _ :: _) _) _ _ _)); (fail_if_success (with_reducible show wpAny _ _ (compareOp _ (Value.ref _) (Value.ref _)) _ _ _)); (fail_if_success (with_reducible show wpAny _ _ (exec (Stmt.Assign _ (PySem.Expr.IfExp _ _ _ _) _) _) _ _ _)); (fail_if_success (with_reducible show JoinI _ _ _ _ _ _ _ _ _)); (fail_if_success (with_reducible show PyProof.Rows.LCg.CompSrc _ _ _ _ _ _ _ _ _ _ _ _ _ _)); (fail_if_success (with_reducible show FlEnd _ _ _ _ _ _ _ _ _ _ _)); (first | (k_unfold; (try dsimp only)) | (k_end; wrow_close) | walk1 | (dsimp only; walk1) | (dsimp only [List.cons_append, List.nil_append]; walk1) | (leave1; walk_say "STEP leave1"; try dsimp only) | fail "no step")))
    refine join_listW (ys := its.map (·.1)) (News.isList N9 List.mem_cons_self) (strs_strL its) (by decide) (by rw [List.length_map]; omega) ?_
    intro t' k'
    have hword : Txt.join (Str.ofString "") (its.map (·.1)) = wordS sg ds := by
      rw [hits, List.take_of_length_le (by rw [List.size_toArray, hI.length]; exact Nat.le_refl _)]; rfl
    rw [hword]
    (repeat' ((fail_if_success (with_reducible show wpAny _ _ (exec (Stmt.For _ _ _ _ _) _) _ _ _)); (fail_if_success (with_reducible show wpAny _ _ (pyIter _) _ _ _)); (fail_if_success (with_reducible show wpAny _ _ (call (Value.ref _) _) _ _ _)); (fail_if_success (with_reducible show wpAny _ _ (exec (Stmt.If _ _ _ _) _) _ _ _)); (fail_if_success (with_reducible show wpAny _ _ (exec (Stmt.Assign _ (PySem.Expr.DictComp _ _ _ _ _) _) _) _ _ _)); (fail_if_success (with_reducible show wpAny _ _ (eval (PySem.Expr.ListComp _ _ _ _) _) _ _ _)); (fail_if_success (with_reducible show wpAny _ _ (call (Value.builtin "sorted") _) _ _ _)); (fail_if_success (with_reducible show wpAny _ _ (execs (Stmt.Assign [PySem.Expr.Tuple _ _ _] _ _ :: _) _) _ _ _)); (fail_if_success (with_reducible show wpAny _ _ (compareOp _ (Value.ref _) (Value.ref _)) _ _ _)); (fail_if_success (with_reducible show wpAny _ _ (exec (Stmt.Assign _ (PySem.Expr.IfExp _ _ _ _) _) _) _ _ _)); (fail_if_success (with_reducible show JoinI _ _ _ _ _ _ _ _ _)); (fail_if_success (with_reducible show PyProof.Rows.LCg.CompSrc _ _ _ _ _ _ _ _ _ _ _ _ _ _)); (fail_if_success (with_reducible show FlEnd _ _ _ _ _ _ _ _ _ _ _)); (first | (k_unfold; (try dsimp only)) | (k_end; wrow_close) | walk1 | (dsimp only; walk1) | (dsimp only [List.cons_append, List.nil_append]; walk1) | (leave1; walk_say "STEP leave1"; try dsimp only) | fail "no step")))
    rename Fr _ _ _ _ => F10
    rename News _ _ _ _ => N10
    exact law_tail2 w hk mean mg mb dp un gd f cd outer A₀ base h₀ L _ _ _ _ B _ _ F10 X T hd hu o1 o2 o3 tsg (kti_tail (kti_tail N10)) sg mid R H hs2 h1 h2 h3 hE (fun h' tk' m' news' => hret h' tk' m' news')
end
section
open PySem.Builtin.Str PySem.StrLaws
theorem occ_kept (s sub : Str) (hi : Nat) : ∀ (l : List Nat) (k fr : Nat), (forIn l ((#[k] : Array Nat), fr) (occBody s sub hi 1)).run.fst = #[k]
  | [], _, _ => rfl
  | a :: l, k, fr => by
    rw [List.forIn_cons]
    unfold occBody
    rw [if_neg (by simp)]
    exact occ_kept s sub hi l k fr
def isAt (s sub : Str) (hi i : Nat) : Bool := decide (i + sub.length ≤ hi) && subAt s sub i
theorem occ_first (s sub : Str) (hi : Nat) : ∀ (l : List Nat) (fr : Nat), (∀ i ∈ l, fr ≤ i) →
    (forIn l ((#[] : Array Nat), fr) (occBody s sub hi 1)).run.fst = match l.find? (isAt s sub hi) with | some i => #[i] | none => #[]
  | [], _, _ => rfl
  | a :: l, fr, hf => by
    rw [List.forIn_cons, List.find?_cons]
    unfold occBody
    have ha : fr ≤ a := hf a List.mem_cons_self
    cases hc : isAt s sub hi a with
    | true =>
      have hc' : a + sub.length ≤ hi ∧ subAt s sub a = true := by simpa [isAt] using hc
      rw [if_pos ⟨⟨⟨by simp, ha⟩, hc'.1⟩, hc'.2⟩]
      exact occ_kept s sub hi l a _
    | false =>
      rw [if_neg (fun h => by
        have : isAt s sub hi a = true := by simp [isAt, h.1.2, h.2]
        rw [hc] at this; cases this)]
      exact occ_first s sub hi l fr fun i hi' => hf i (List.mem_cons_of_mem _ hi')
def first1 (g w : Str) (p : Nat) : Option Nat := (List.range' p (g.length + 1 - p)).find? (isAt g w g.length)
theorem occ_first1 (g w : Str) (p : Nat) : occurrences g w p g.length 1 = (first1 g w p).toList := by
  rw [occ_eq, occ_first g w g.length _ p (fun i hi => (List.mem_range'_1.mp hi).1)]
  unfold first1
  cases (List.range' p (g.length + 1 - p)).find? (isAt g w g.length) <;> rfl
theorem ell_cons (g w : Str) (ws : List Str) (p : Nat) : ellLoop g (w :: ws) p = match first1 g w p with | some k => ellLoop g ws (k + w.length) | none => false := by
  show (match occurrences g w p g.length 1 with | k :: _ => ellLoop g ws (k + w.length) | [] => false) = _
  rw [occ_first1]
  cases first1 g w p <;> rfl
def enc (a b : Nat) (bs : List Bool) : Str := ⟨(bs.map fun x => bif x then b else a).toArray⟩
theorem enc_len (a b : Nat) (bs : List Bool) : (enc a b bs).length = bs.length := by
  show (bs.map _).toArray.size = _
  simp
theorem enc_app (a b : Nat) (xs ys : List Bool) : enc a b xs ++ enc a b ys = enc a b (xs ++ ys) := by
  show (⟨(enc a b xs).cps ++ (enc a b ys).cps⟩ : Str) = _
  unfold enc
  simp
def subB : List Bool → List Bool → Bool
  | [], _ => true
  | _ :: _, [] => false
  | w :: ws, t :: ts => if w = t then subB ws ts else subB (w :: ws) ts
theorem first_here {g w : Str} {p : Nat} (hp : p ≤ g.length) (h : isAt g w g.length p = true) : first1 g w p = some p := by
  unfold first1
  rw [show g.length + 1 - p = (g.length - p) + 1 from by omega, List.range'_succ, List.find?_cons, h]
theorem first_next {g w : Str} {p : Nat} (hp : p ≤ g.length) (h : isAt g w g.length p = false) : first1 g w p = first1 g w (p + 1) := by
  unfold first1
  rw [show g.length + 1 - p = (g.length - p) + 1 from by omega, List.range'_succ, List.find?_cons, h, show g.length + 1 - (p + 1) = g.length - p from by omega]
theorem sub_at {a b : Nat} (hab : a ≠ b) (pre ts : List Bool) (w t : Bool) : isAt (enc a b (pre ++ t :: ts)) (enc a b [w]) (enc a b (pre ++ t :: ts)).length pre.length = decide (w = t) := by
  unfold isAt
  rw [enc_len, enc_len]
  have e1 : decide (pre.length + [w].length ≤ (pre ++ t :: ts).length) = true := by simp
  rw [e1, Bool.true_and]
  unfold subAt
  rw [enc_len]
  have e2 : (enc a b (pre ++ t :: ts)).cps.extract pre.length (pre.length + [w].length) = #[bif t then b else a] := by
    unfold enc
    simp
  rw [e2]
  show ((#[bif t then b else a] : Array Nat) == #[bif w then b else a]) = _
  cases t <;> cases w <;> simp [hab, Ne.symm hab]
theorem sub_empty (g : Str) (p : Nat) (hp : p ≤ g.length) : isAt g (Str.ofString "") g.length p = true := by
  unfold isAt subAt
  have : (Str.ofString "").length = 0 := by decide
  rw [this]
  have e : (Str.ofString "").cps = #[] := by decide
  rw [e]
  simp [hp, Nat.min_le_left]
theorem ell_bits {a b : Nat} (hab : a ≠ b) : ∀ (ts pre ws : List Bool), ellLoop (enc a b (pre ++ ts)) ((ws.map fun x => enc a b [x]) ++ [Str.ofString ""]) pre.length = subB ws ts := by
  intro ts
  induction ts with
  | nil =>
    intro pre ws
    cases ws with
    | nil =>
      rw [List.map_nil, List.nil_append, ell_cons, first_here (by rw [enc_len]; simp) (sub_empty _ _ (by rw [enc_len]; simp))]
      rfl
    | cons w ws =>
      rw [List.map_cons, List.cons_append, ell_cons]
      have h : isAt (enc a b (pre ++ [])) (enc a b [w]) (enc a b (pre ++ [])).length pre.length = false := by
        unfold isAt
        rw [enc_len, enc_len]
        have : decide (pre.length + [w].length ≤ (pre ++ []).length) = false := by simp
        rw [this, Bool.false_and]
      rw [first_next (by rw [enc_len]; simp) h]
      have : first1 (enc a b (pre ++ [])) (enc a b [w]) (pre.length + 1) = none := by
        unfold first1
        rw [enc_len]
        have : (pre ++ []).length + 1 - (pre.length + 1) = 0 := by simp
        rw [this]; rfl
      rw [this]
      rfl
  | cons t ts ih =>
    intro pre ws
    cases ws with
    | nil =>
      rw [List.map_nil, List.nil_append, ell_cons, first_here (by rw [enc_len]; simp) (sub_empty _ _ (by rw [enc_len]; simp))]
      rfl
    | cons w ws =>
      have hp : pre ++ t :: ts = (pre ++ [t]) ++ ts := by simp
      have hl : pre.length + 1 = (pre ++ [t]).length := by simp
      rw [List.map_cons, List.cons_append, ell_cons]
      by_cases hwt : w = t
      · rw [first_here (by rw [enc_len]; simp) (by rw [sub_at hab]; exact decide_eq_true hwt)]
        dsimp only
        rw [enc_len, show [w].length = 1 from rfl, hl, hp, ih]
        rw [subB, if_pos hwt]
      · rw [first_next (by rw [enc_len]; simp) (by rw [sub_at hab]; exact decide_eq_false hwt), ← ell_cons, hl, hp]
        have := ih (pre ++ [t]) (w :: ws)
        rw [List.map_cons, List.cons_append] at this
        rw [this, subB, if_neg hwt]
theorem ell_all {a b : Nat} (hab : a ≠ b) (ts ws : List Bool) : ellLoop (enc a b ts) (Str.ofString "" :: ((ws.map fun x => enc a b [x]) ++ [Str.ofString ""])) 0 = subB ws ts := by
  rw [ell_cons, first_here (Nat.zero_le _) (sub_empty _ _ (Nat.zero_le _))]
  exact ell_bits hab ts [] ws
def ltB (o : Bool) : List Bool → List Bool → Bool
  | _, [] => false
  | [], _ :: _ => true
  | x :: xs, y :: ys => if x = y then ltB o xs ys else x != o
theorem lt_bits {a b : Nat} (hab : a ≠ b) : ∀ (xs ys : List Bool), ltB (decide (a < b)) xs ys = ltS (enc a b xs) (enc a b ys) := by
  intro xs
  induction xs with
  | nil =>
    intro ys
    cases ys with
    | nil => rfl
    | cons y ys => simp [ltB, ltS, enc]
  | cons x xs ih =>
    intro ys
    cases ys with
    | nil => simp [ltB, ltS, enc]
    | cons y ys =>
      have ih' := ih ys
      unfold ltS enc at ih' ⊢
      simp only [List.map_cons, List.cons_lt_cons_iff, ltB] at ih' ⊢
      cases x <;> cases y
      · simp at ih' ⊢; exact ih'
      · by_cases h : a < b
        · simp [h]
        · simp [h, hab]
      · by_cases h : a < b
        · have : ¬ b < a := by omega
          simp [h, this, Ne.symm hab]
        · have : b < a := by omega
          simp [h, this]
      · simp at ih' ⊢; exact ih'
end
abbrev BSt := List (List Bool) × List (List Bool) × Book
def stepB (a b : Nat) (ws : List Bool) (st : BSt) : BSt :=
  match st.1 with
  | [] => st
  | t :: _ =>
    if subB ws t then
      (popL (ltB (decide (a < b))) st.1, st.2.1 ++ [t], putB st.2.2 (t.length : Int) (addE ((findB st.2.2 (t.length : Int)).getD e0) (entY (enc a b t) (enc a b [false]) (enc a b [true]))))
    else
      (if t.length < 5 then pushL (ltB (decide (a < b))) (pushL (ltB (decide (a < b))) (popL (ltB (decide (a < b))) st.1) (t ++ [true])) (t ++ [false]) else popL (ltB (decide (a < b))) st.1, st.2.1, putB st.2.2 (t.length : Int) (addE ((findB st.2.2 (t.length : Int)).getD e0) entN))
def okB (st : BSt) : Bool := decide (st.1.length < 100) && st.1.all (fun x => decide (x.length < 10)) && decide (st.2.1.length < 100) && decide (st.2.2.length < 100) && st.2.2.all (fun p => decide (p.2.2.2.2.2.length < 50))
def runB (a b : Nat) (ws : List Bool) : Nat → BSt → Option (List (List Bool) × Book)
  | 0, _ => none
  | n + 1, st => if okB st then (match st.1 with | [] => some st.2 | _ :: _ => runB a b ws n (stepB a b ws st)) else none
theorem enc_ok {a b : Nat} (ha : a < 0x110000) (hb : b < 0x110000) (bs : List Bool) : PyData.strOk (enc a b bs) = true := by
  unfold PyData.strOk enc
  simp only [List.all_toArray, List.all_map, List.all_eq_true, Function.comp, decide_eq_true_eq]
  intro x _
  cases x
  · exact ha
  · exact hb
def encSt (a b : Nat) (st : BSt) : GSt := (st.1.map (enc a b), st.2.1.map (enc a b), st.2.2)
theorem push_bits {a b : Nat} (hab : a ≠ b) (l : List (List Bool)) (x : List Bool) : (pushL (ltB (decide (a < b))) l x).map (enc a b) = pushL ltS (l.map (enc a b)) (enc a b x) := by
  unfold pushL
  rw [map_siftdown (enc a b) (ltB (decide (a < b))) ltS (lt_bits hab), List.map_append, List.length_map]
  rfl
theorem pop_bits {a b : Nat} (hab : a ≠ b) (l : List (List Bool)) : (popL (ltB (decide (a < b))) l).map (enc a b) = popL ltS (l.map (enc a b)) := map_popL (enc a b) (ltB (decide (a < b))) ltS (lt_bits hab) l
theorem step_bits {a b : Nat} (hab : a ≠ b) (ws : List Bool) (st : BSt) : stepG (ws.map fun x => enc a b [x]) (enc a b [false]) (enc a b [true]) (encSt a b st) = encSt a b (stepB a b ws st) := by
  obtain ⟨h, nt, bk⟩ := st
  cases h with
  | nil => rfl
  | cons t r =>
    have e : stepG (ws.map fun x => enc a b [x]) (enc a b [false]) (enc a b [true]) (encSt a b (t :: r, nt, bk)) =
      if ellLoop (enc a b t) (Str.ofString "" :: ((ws.map fun x => enc a b [x]) ++ [Str.ofString ""])) 0 then
        (popL ltS ((t :: r).map (enc a b)), nt.map (enc a b) ++ [enc a b t], putB bk ((enc a b t).length : Int) (addE ((findB bk ((enc a b t).length : Int)).getD e0) (entY (enc a b t) (enc a b [false]) (enc a b [true]))))
      else
        (if (enc a b t).length < 5 then pushL ltS (pushL ltS (popL ltS ((t :: r).map (enc a b))) (enc a b t ++ enc a b [true])) (enc a b t ++ enc a b [false]) else popL ltS ((t :: r).map (enc a b)), nt.map (enc a b), putB bk ((enc a b t).length : Int) (addE ((findB bk ((enc a b t).length : Int)).getD e0) entN)) := rfl
    have e2 : stepB a b ws (t :: r, nt, bk) =
      if subB ws t then
        (popL (ltB (decide (a < b))) (t :: r), nt ++ [t], putB bk (t.length : Int) (addE ((findB bk (t.length : Int)).getD e0) (entY (enc a b t) (enc a b [false]) (enc a b [true]))))
      else
        (if t.length < 5 then pushL (ltB (decide (a < b))) (pushL (ltB (decide (a < b))) (popL (ltB (decide (a < b))) (t :: r)) (t ++ [true])) (t ++ [false]) else popL (ltB (decide (a < b))) (t :: r), nt, putB bk (t.length : Int) (addE ((findB bk (t.length : Int)).getD e0) entN)) := rfl
    rw [e, e2, ell_all hab, enc_len]
    cases hs : subB ws t with
    | true =>
      rw [if_pos rfl, if_pos rfl, ← pop_bits hab]
      unfold encSt
      rw [List.map_append]
      rfl
    | false =>
      rw [if_neg Bool.false_ne_true, if_neg Bool.false_ne_true, ← pop_bits hab, enc_app, enc_app]
      unfold encSt
      by_cases h5 : t.length < 5
      · rw [if_pos h5, if_pos h5, push_bits hab, push_bits hab]
      · rw [if_neg h5, if_neg h5]
theorem ok_bits {a b : Nat} (ha : a < 0x110000) (hb : b < 0x110000) (st : BSt) : okG (encSt a b st) = okB st := by
  unfold okG okB encSt
  dsimp only
  rw [List.length_map, List.length_map, List.all_map]
  have : (fun x => decide (x.length < 10) && PyData.strOk x) ∘ enc a b = fun x => decide (x.length < 10) := by
    funext x
    simp only [Function.comp, enc_len, enc_ok ha hb, Bool.and_true]
  rw [this]
theorem run_bits {a b : Nat} (hab : a ≠ b) (ha : a < 0x110000) (hb : b < 0x110000) (ws : List Bool) : ∀ (n : Nat) (st : BSt), runG (ws.map fun x => enc a b [x]) (enc a b [false]) (enc a b [true]) n (encSt a b st) = (runB a b ws n st).map fun r => (r.1.map (enc a b), r.2) := by
  intro n
  induction n with
  | zero => intro st; rfl
  | succ n ih =>
    intro st
    unfold runG runB
    rw [ok_bits ha hb]
    cases okB st with
    | false => rfl
    | true =>
      rw [if_pos rfl, if_pos rfl]
      obtain ⟨h, nt, bk⟩ := st
      cases h with
      | nil => rfl
      | cons t r =>
        show runG _ _ _ n (stepG _ _ _ (encSt a b (t :: r, nt, bk))) = _
        rw [step_bits hab, ih]
def bits : Nat → List (List Bool)
  | 0 => [[]]
  | n + 1 => (bits n).map (false :: ·) ++ (bits n).map (true :: ·)
theorem mem_bits : ∀ (ws : List Bool), ws ∈ bits ws.length
  | [] => List.mem_singleton.mpr rfl
  | w :: ws => by
    show w :: ws ∈ (bits ws.length).map (false :: ·) ++ (bits ws.length).map (true :: ·)
    rw [List.mem_append]
    cases w
    · exact .inl (List.mem_map.mpr ⟨ws, mem_bits ws, rfl⟩)
    · exact .inr (List.mem_map.mpr ⟨ws, mem_bits ws, rfl⟩)
def chkTurn (sg word : Str) (bk : Book) (n : Int) : Bool :=
  match findB bk n with
  | none => false
  | some e =>
    decide (e.1 = totalP n word.length) && decide (e.2.1 = totalP n word.length + withoutP n word.length) && decide (e.2.2.1 = timesP (dueP sg word n)) &&
    decide (e.2.2.2.1 = n * totalP n word.length - timesP (dueP sg word n)) && sameKV e.2.2.2.2 (foldD (kfP sg n) (vfP (dueP sg word n)) ((dueP sg word n).map (·.1))) &&
    decide ((e.2.2.2.2.map (·.2)).sum = totalP n word.length) &&
    ((dueP sg word n).all fun p => decide (0 ≤ p.1) && decide (p.1 ≤ 5) && decide (-1000 < vfP (dueP sg word n) p.1) && decide (vfP (dueP sg word n) p.1 < 1000)) &&
    decide (-1000 < totalP n word.length) && decide (totalP n word.length < 1000)
def chkWord (sg word : Str) (mid : List Str) : Bool :=
  decide (word.length < 10) && decide (1 < word.length) && decide ((Txt.join (Str.ofString "...") (signs word)).length < 100) &&
  ((Builtin.Str.occurrences (pat word) (Str.ofString "...") 0 (pat word).length 1).isEmpty == false) && decide (Txt.split (pat word) (Str.ofString "...") = Str.ofString "" :: (mid ++ [Str.ofString ""])) && decide (mid.length < 100) &&
  word.cps.all (· < 128) && ([0, 1, 2, 3].all fun j => decide ((laidAll sg (word.cps.toList.take j)).length < 64)) && decide (word.length ≤ 4) && decide ((laidAll sg word.cps.toList).length < 64) &&
  decide (0 ≤ Txt.count word (Txt.item sg 0)) && decide (Txt.count word (Txt.item sg 0) ≤ (word.length : Int))
def chkRun (sg word : Str) (nt : List Str) (bk : Book) : Bool :=
  sortedS nt && nt.isPerm (laidAll sg word.cps.toList) && ((bk.map (·.1)).isPerm [0, 1, 2, 3, 4, 5] && lks_asc [0, 1, 2, 3, 4, 5]) && decide (0 < bk.length) && decide (bk.length < 64) &&
  chkTurn sg word bk 0 && chkTurn sg word bk 1 && chkTurn sg word bk 2 && chkTurn sg word bk 3 && chkTurn sg word bk 4 && chkTurn sg word bk 5
def chk (sg : Str) (a b : Nat) (ws : List Bool) : Bool :=
  decide (Txt.join (Str.ofString "") (ws.map fun x => enc a b [x]) = enc a b ws) && chkWord sg (enc a b ws) (ws.map fun x => enc a b [x]) &&
  match runB a b ws 90 ([[]], [], []) with
  | none => false
  | some r => chkRun sg (enc a b ws) (r.1.map (enc a b)) r.2
theorem turn_of {sg word : Str} {R : List Str × Book} {n : Int} (h : chkTurn sg word R.2 n = true) : ∃ e, TurnFacts sg word R n e := by
  unfold chkTurn at h
  cases hf : findB R.2 n with
  | none => rw [hf] at h; cases h
  | some e =>
    rw [hf] at h
    simp only [Bool.and_eq_true, decide_eq_true_eq, List.all_eq_true] at h
    obtain ⟨⟨⟨⟨⟨⟨⟨⟨h1, h2⟩, h3⟩, h4⟩, h5⟩, h6⟩, h7⟩, h8⟩, h9⟩ := h
    exact ⟨e, ⟨hf, h1, h2, h3, h4, h5, h6, fun p hp => ⟨(h7 p hp).1.1.1, (h7 p hp).1.1.2, (h7 p hp).1.2, (h7 p hp).2⟩, h8, h9⟩⟩
theorem facts_of {sg : Str} {a b : Nat} {ws : List Bool} (hab : a ≠ b) (ha : a < 0x110000) (hb : b < 0x110000) (h0 : Txt.item sg 0 = enc a b [false]) (h1 : Txt.item sg 1 = enc a b [true]) (hs : sg.length = 2) (h : chk sg a b ws = true) :
    Txt.join (Str.ofString "") (ws.map fun x => enc a b [x]) = enc a b ws ∧ ∃ mid R, LawFacts sg (enc a b ws) mid R := by
  unfold chk at h
  rw [Bool.and_eq_true, Bool.and_eq_true] at h
  obtain ⟨⟨hj, hw⟩, hr⟩ := h
  refine ⟨of_decide_eq_true hj, ws.map fun x => enc a b [x], ?_⟩
  cases hrun : runB a b ws 90 ([[]], [], []) with
  | none => rw [hrun] at hr; cases hr
  | some r =>
    rw [hrun] at hr
    dsimp only at hr
    refine ⟨(r.1.map (enc a b), r.2), ?_⟩
    have hG := run_bits hab ha hb ws 90 ([[]], [], [])
    rw [hrun] at hG
    unfold chkWord at hw
    unfold chkRun at hr
    simp only [Bool.and_eq_true, decide_eq_true_eq, beq_iff_eq, List.all_cons, List.all_nil, Bool.and_true] at hw
    rw [Bool.and_eq_true, Bool.and_eq_true, Bool.and_eq_true, Bool.and_eq_true, Bool.and_eq_true, Bool.and_eq_true, Bool.and_eq_true, Bool.and_eq_true, Bool.and_eq_true, Bool.and_eq_true] at hr
    obtain ⟨⟨⟨⟨⟨⟨⟨⟨⟨⟨⟨w1, w2⟩, w3⟩, w4⟩, w5⟩, w6⟩, w7⟩, w8⟩, w9⟩, w10⟩, w11⟩, w12⟩ := hw
    obtain ⟨⟨⟨⟨⟨⟨⟨⟨⟨⟨r1, r2⟩, r3⟩, r4⟩, r5⟩, t0⟩, t1⟩, t2⟩, t3⟩, t4⟩, t5⟩ := hr
    exact {
      hs2 := hs
      hl0 := by rw [h0, enc_len]; rfl
      hl1 := by rw [h1, enc_len]; rfl
      hw := w1
      hwl := w2
      hjl := w3
      hin := w4
      hsp := w5
      hmid := w6
      hrun := by rw [h0, h1]; exact hG
      ha := w7
      hlen := by
        intro j
        obtain ⟨v0, v1, v2, v3⟩ := w8
        match j with
        | 0 => exact v0
        | 1 => exact v1
        | 2 => exact v2
        | 3 => exact v3
        | j + 4 =>
          rw [List.take_of_length_le (by have : (enc a b ws).cps.toList.length = (enc a b ws).length := Array.length_toList; omega)]
          exact w10
      hok := by
        intro x hx
        obtain ⟨y, _, rfl⟩ := List.mem_map.mp hx
        exact enc_ok ha hb y
      hsort := r1
      hperm := List.isPerm_iff.mp r2
      hbook := r3
      hbl := of_decide_eq_true r4
      hbm := of_decide_eq_true r5
      hturn := by
        intro n hn0 hn6
        have hn : n = 0 ∨ n = 1 ∨ n = 2 ∨ n = 3 ∨ n = 4 ∨ n = 5 := by omega
        rcases hn with rfl | rfl | rfl | rfl | rfl | rfl
        · exact turn_of t0
        · exact turn_of t1
        · exact turn_of t2
        · exact turn_of t3
        · exact turn_of t4
        · exact turn_of t5
      hc0 := w11
      hc1 := w12 }
theorem ab2 : ((bits 2).all fun ws => chk (Str.ofString "ab") 97 98 ws) = true := by decide +kernel
theorem ab3f : ((bits 2).all fun ws => chk (Str.ofString "ab") 97 98 (false :: ws)) = true := by decide +kernel
theorem ab3t : ((bits 2).all fun ws => chk (Str.ofString "ab") 97 98 (true :: ws)) = true := by decide +kernel
theorem ab4ff : ((bits 2).all fun ws => chk (Str.ofString "ab") 97 98 (false :: false :: ws)) = true := by decide +kernel
theorem ab4ft : ((bits 2).all fun ws => chk (Str.ofString "ab") 97 98 (false :: true :: ws)) = true := by decide +kernel
theorem ab4tf : ((bits 2).all fun ws => chk (Str.ofString "ab") 97 98 (true :: false :: ws)) = true := by decide +kernel
theorem ab4tt : ((bits 2).all fun ws => chk (Str.ofString "ab") 97 98 (true :: true :: ws)) = true := by decide +kernel
theorem nb2 : ((bits 2).all fun ws => chk (Str.ofString "\nb") 10 98 ws) = true := by decide +kernel
theorem nb3f : ((bits 2).all fun ws => chk (Str.ofString "\nb") 10 98 (false :: ws)) = true := by decide +kernel
theorem nb3t : ((bits 2).all fun ws => chk (Str.ofString "\nb") 10 98 (true :: ws)) = true := by decide +kernel
theorem nb4ff : ((bits 2).all fun ws => chk (Str.ofString "\nb") 10 98 (false :: false :: ws)) = true := by decide +kernel
theorem nb4ft : ((bits 2).all fun ws => chk (Str.ofString "\nb") 10 98 (false :: true :: ws)) = true := by decide +kernel
theorem nb4tf : ((bits 2).all fun ws => chk (Str.ofString "\nb") 10 98 (true :: false :: ws)) = true := by decide +kernel
theorem nb4tt : ((bits 2).all fun ws => chk (Str.ofString "\nb") 10 98 (true :: true :: ws)) = true := by decide +kernel
theorem bk2 : ((bits 2).all fun ws => chk (Str.ofString "b(") 98 40 ws) = true := by decide +kernel
theorem bk3f : ((bits 2).all fun ws => chk (Str.ofString "b(") 98 40 (false :: ws)) = true := by decide +kernel
theorem bk3t : ((bits 2).all fun ws => chk (Str.ofString "b(") 98 40 (true :: ws)) = true := by decide +kernel
theorem bk4ff : ((bits 2).all fun ws => chk (Str.ofString "b(") 98 40 (false :: false :: ws)) = true := by decide +kernel
theorem bk4ft : ((bits 2).all fun ws => chk (Str.ofString "b(") 98 40 (false :: true :: ws)) = true := by decide +kernel
theorem bk4tf : ((bits 2).all fun ws => chk (Str.ofString "b(") 98 40 (true :: false :: ws)) = true := by decide +kernel
theorem bk4tt : ((bits 2).all fun ws => chk (Str.ofString "b(") 98 40 (true :: true :: ws)) = true := by decide +kernel
theorem chk_all {sg : Str} {a b : Nat} (h2 : ((bits 2).all fun ws => chk sg a b ws) = true) (h3f : ((bits 2).all fun ws => chk sg a b (false :: ws)) = true) (h3t : ((bits 2).all fun ws => chk sg a b (true :: ws)) = true)
    (h4a : ((bits 2).all fun ws => chk sg a b (false :: false :: ws)) = true) (h4b : ((bits 2).all fun ws => chk sg a b (false :: true :: ws)) = true) (h4c : ((bits 2).all fun ws => chk sg a b (true :: false :: ws)) = true) (h4d : ((bits 2).all fun ws => chk sg a b (true :: true :: ws)) = true)
    (ws : List Bool) (hl2 : 2 ≤ ws.length) (hl4 : ws.length ≤ 4) : chk sg a b ws = true := by
  have key : ∀ x y : Bool, [x, y] ∈ bits 2 := fun x y => mem_bits [x, y]
  match ws, hl2, hl4 with
  | [x, y], _, _ => exact List.all_eq_true.mp h2 _ (key x y)
  | [false, x, y], _, _ => exact List.all_eq_true.mp h3f _ (key x y)
  | [true, x, y], _, _ => exact List.all_eq_true.mp h3t _ (key x y)
  | [false, false, x, y], _, _ => exact List.all_eq_true.mp h4a _ (key x y)
  | [false, true, x, y], _, _ => exact List.all_eq_true.mp h4b _ (key x y)
  | [true, false, x, y], _, _ => exact List.all_eq_true.mp h4c _ (key x y)
  | [true, true, x, y], _, _ => exact List.all_eq_true.mp h4d _ (key x y)
  | [], h, _ => exact absurd h (by decide)
  | [_], h, _ => exact absurd h (by simp)
  | _ :: _ :: _ :: _ :: _ :: _, _, h => exact absurd h (by simp)
theorem facts_sg {sg : Str} {a b : Nat} (hab : a ≠ b) (ha : a < 0x110000) (hb : b < 0x110000) (h0 : Txt.item sg 0 = enc a b [false]) (h1 : Txt.item sg 1 = enc a b [true]) (hs : sg.length = 2) (hc : ∀ ws : List Bool, 2 ≤ ws.length → ws.length ≤ 4 → chk sg a b ws = true)
    (ds : List Int) (h2 : 2 ≤ ds.length) (h4 : ds.length ≤ 4) : ∃ mid R, LawFacts sg (wordS sg ds) mid R := by
  have hw : (ds.map fun d => Txt.item sg (d.fmod 2)) = (ds.map fun d => decide (d.fmod 2 = 1)).map fun x => enc a b [x] := by
    rw [List.map_map]
    refine List.map_congr_left fun d _ => ?_
    have hb0 : 0 ≤ d.fmod 2 := Int.fmod_nonneg_of_pos _ (by decide)
    have hb1 : d.fmod 2 < 2 := Int.fmod_lt_of_pos _ (by decide)
    have h01 : d.fmod 2 = 0 ∨ d.fmod 2 = 1 := by omega
    rcases h01 with e | e
    · simp only [Function.comp, e]; exact h0
    · simp only [Function.comp, e]; exact h1
  have hf := facts_of hab ha hb h0 h1 hs (hc (ds.map fun d => decide (d.fmod 2 = 1)) (by rw [List.length_map]; exact h2) (by rw [List.length_map]; exact h4))
  unfold wordS
  rw [hw, hf.1]
  exact hf.2
theorem facts_all (sg : Str) (hsg : sg = Str.ofString "ab" ∨ sg = Str.ofString "\nb" ∨ sg = Str.ofString "b(") (ds : List Int) (h2 : 2 ≤ ds.length) (h4 : ds.length ≤ 4) : ∃ mid R, LawFacts sg (wordS sg ds) mid R := by
  rcases hsg with rfl | rfl | rfl
  · exact facts_sg (a := 97) (b := 98) (by decide) (by decide) (by decide) (by decide +kernel) (by decide +kernel) (by decide +kernel) (chk_all ab2 ab3f ab3t ab4ff ab4ft ab4tf ab4tt) ds h2 h4
  · exact facts_sg (a := 10) (b := 98) (by decide) (by decide) (by decide) (by decide +kernel) (by decide +kernel) (by decide +kernel) (chk_all nb2 nb3f nb3t nb4ff nb4ft nb4tf nb4tt) ds h2 h4
  · exact facts_sg (a := 98) (b := 40) (by decide) (by decide) (by decide) (by decide +kernel) (by decide +kernel) (by decide +kernel) (chk_all bk2 bk3f bk3t bk4ff bk4ft bk4tf bk4tt) ds h2 h4
section
theorem law_walk : PySem.Challenge.rw_pg0125_01.Holds := Mine.hd (by
  w_top off
  k_go0
  all_goals (try k_fold)
  (repeat' ((fail_if_success (with_reducible show wpAny _ _ (exec (Stmt.For _ _ _ _ _) _) _ _ _)); (fail_if_success (with_reducible show wpAny _ _ (pyIter _) _ _ _)); (fail_if_success (with_reducible show wpAny _ _ (call (Value.ref _) _) _ _ _)); (fail_if_success (with_reducible show wpAny _ _ (exec (Stmt.If _ _ _ _) _) _ _ _)); (fail_if_success (with_reducible show wpAny _ _ (exec (Stmt.Assign _ (PySem.Expr.DictComp _ _ _ _ _) _) _) _ _ _)); (fail_if_success (with_reducible show wpAny _ _ (eval (PySem.Expr.ListComp _ _ _ _) _) _ _ _)); (fail_if_success (with_reducible show wpAny _ _ (call (Value.builtin "sorted") _) _ _ _)); (fail_if_success (with_reducible show wpAny _ _ (execs (Stmt.Assign [PySem.Expr.Tuple _ _ _] _ _ :: _) _) _ _ _)); (fail_if_success (with_reducible show wpAny _ _ (compareOp _ (Value.ref _) (Value.ref _)) _ _ _)); (fail_if_success (with_reducible show wpAny _ _ (exec (Stmt.Assign _ (PySem.Expr.IfExp _ _ _ _) _) _) _ _ _)); (fail_if_success (with_reducible show JoinI _ _ _ _ _ _ _ _ _)); (fail_if_success (with_reducible show PyProof.Rows.LCg.CompSrc _ _ _ _ _ _ _ _ _ _ _ _ _ _)); (fail_if_success (with_reducible show wpAny _ _ (subscriptTail (PySem.Expr.Tuple _ _ _) _ _ _) _ _ _)); (fail_if_success (with_reducible show wpAny _ _ (execs (Stmt.Assign [PySem.Expr.Name (Str.ofString "word") _] _ _ :: _) _) _ _ _)); (fail_if_success (with_reducible show FlEnd _ _ _ _ _ _ _ _ _ _ _)); (first | (k_unfold; (try dsimp only)) | (k_end; wrow_close) | walk1 | (dsimp only; walk1) | (dsimp only [List.cons_append, List.nil_append]; walk1) | (leave1; walk_say "STEP leave1"; try dsimp only) | fail "no step")))
  rename News _ _ _ _ => N1
  refine kba_turn (value' := PySem.Expr.Name (PySem.Str.ofString "_") ⟨0, 0, 0, 0⟩) (fun _ => rfl) ?_
  refine' menu3 N1 List.mem_cons_self rfl rfl ?_ ?hs1 ?hg1
  case hs1 => with_unfolding_all rfl
  case hg1 => intro _; with_unfolding_all rfl
  intro sg tsg hsg
  (repeat' ((fail_if_success (with_reducible show wpAny _ _ (exec (Stmt.For _ _ _ _ _) _) _ _ _)); (fail_if_success (with_reducible show wpAny _ _ (pyIter _) _ _ _)); (fail_if_success (with_reducible show wpAny _ _ (call (Value.ref _) _) _ _ _)); (fail_if_success (with_reducible show wpAny _ _ (exec (Stmt.If _ _ _ _) _) _ _ _)); (fail_if_success (with_reducible show wpAny _ _ (exec (Stmt.Assign _ (PySem.Expr.DictComp _ _ _ _ _) _) _) _ _ _)); (fail_if_success (with_reducible show wpAny _ _ (eval (PySem.Expr.ListComp _ _ _ _) _) _ _ _)); (fail_if_success (with_reducible show wpAny _ _ (call (Value.builtin "sorted") _) _ _ _)); (fail_if_success (with_reducible show wpAny _ _ (execs (Stmt.Assign [PySem.Expr.Tuple _ _ _] _ _ :: _) _) _ _ _)); (fail_if_success (with_reducible show wpAny _ _ (compareOp _ (Value.ref _) (Value.ref _)) _ _ _)); (fail_if_success (with_reducible show wpAny _ _ (exec (Stmt.Assign _ (PySem.Expr.IfExp _ _ _ _) _) _) _ _ _)); (fail_if_success (with_reducible show JoinI _ _ _ _ _ _ _ _ _)); (fail_if_success (with_reducible show PyProof.Rows.LCg.CompSrc _ _ _ _ _ _ _ _ _ _ _ _ _ _)); (fail_if_success (with_reducible show wpAny _ _ (subscriptTail (PySem.Expr.Tuple _ _ _) _ _ _) _ _ _)); (fail_if_success (with_reducible show wpAny _ _ (execs (Stmt.Assign [PySem.Expr.Name (Str.ofString "word") _] _ _ :: _) _) _ _ _)); (fail_if_success (with_reducible show FlEnd _ _ _ _ _ _ _ _ _ _ _)); (first | (k_unfold; (try dsimp only)) | (k_end; wrow_close) | walk1 | (dsimp only; walk1) | (dsimp only [List.cons_append, List.nil_append]; walk1) | (leave1; walk_say "STEP leave1"; try dsimp only) | fail "no step")))
  rename (IntsAre _ (List.take (Int.toNat _) _)) => hI9
  rename Fr _ _ _ _ => F9
  rename News _ _ _ _ => N9
  rename Frag.In _ _ => X9
  rename Top _ _ _ _ _ _ => T9
  rename Below _ _ _ _ => B9
  rename (Obj.data _ = .cell (some (.str sg tsg))) => hc1
  rename (Obj.data _ = .cell (bindC _ _ _ (Str.ofString "n"))) => hc2
  rename (Obj.data _ = .cell (bindC _ _ _ (Str.ofString "firsts"))) => hc3
  rename World => w
  rename Addr => D9
  refine (fun (h9 : (Mine.hd.heap_39 w.params).lookup 101 = some ⟨_, _, .func (fnOf _ _ _ _ _ _ _ _ _ _ _ _), _⟩) => ?_) (by k_is)
  generalize hds : List.take (Int.toNat _) (List.take 4 _ ++ ([0, 1] : List Int)) = ds at hI9
  have hlen : 2 ≤ ds.length ∧ ds.length ≤ 4 := by
    rw [← hds]
    simp only [List.length_take, List.length_append, List.length_cons, List.length_nil]
    (repeat' split) <;> omega
  obtain ⟨mid, R, H⟩ := facts_all sg hsg ds hlen.1 hlen.2
  refine law_tail w h9 _ _ _ _ _ _ _ _ _ _ _ _ _ _ _ _ _ B9 F9 X9 T9 ?qhd ?qhu _ _ _ tsg D9 _ 0 (fun p hp => N9 p ?qN) sg ds hlen.2 mid R H hc1 hc2 hc3 hI9 ?qm ?qE ?qret
  case qhd => decide +kernel
  case qhu => decide +kernel
  case qN =>
    simp only [List.mem_cons, List.not_mem_nil, or_false] at hp ⊢
    rcases hp with h | h | h | h <;> simp [h]
  case qm => exact if_pos rfl
  case qE => first | passes_own | with_unfolding_all passes_own
  case qret =>
    intro h' tk' m' news' F' N'
    k_end
    wrow_close)
end
end Mine
theorem PySem.Challenge.cw_pg0125_01_holds : PySem.Challenge.rw_pg0125_01.Holds :=
  Mine.law_walk
