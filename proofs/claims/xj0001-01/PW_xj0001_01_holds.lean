import PyProof.Rows.All
import Wide.All
import OpenK.AllK
import Wide.FinOn
import Lean
import PySem.Challenge.RW_xj0001_01
open PySem PySem.W PyProof.Rows
set_option Elab.async false
set_option maxRecDepth 100000
set_option linter.unusedVariables false
set_option linter.unusedSimpArgs false
namespace Mine
local macro_rules | `(tactic| k_head) => `(tactic| x_head)
set_option maxRecDepth 100000 in
set_option maxHeartbeats 8000000 in
open_top hd for PySem.Challenge.rw_xj0001_01
open PySem PySem.W PyProof.Rows PySem.Calls PySem.Spec
noncomputable abbrev lo : List Str := looseW hd.view_39 [Str.ofString "_quoted", Str.ofString "_paren_depth", Str.ofString "UTC_ZONES", Str.ofString "TIMEZONE_RE"]
/-- a call of the def at f with vs, d frames deep, its ledger news; R: what comes back and what it lays on the ledger -/
noncomputable abbrev Claim (w : World) (mean : ExcName → Option Value) (mg mb : Str → Option Value) (d : Nat) (f : Addr) (vs : List Value) (news : List (Addr × Obj)) (R : Value → List (Addr × Obj) → Prop) : Prop :=
  ∀ (dp un : Nat) (gd : Option (List Code)) (cn : Str) (cs : Scope) (a : Addr) (ccd : Value) (cl : List (Str × Addr)) (outer : List Env) (A₀ : Around) (base h₀ : Heap) (L : Addr) (m : Str → Option Value) (s : Shared) (Q E : Value → Shared → Prop),
    Below A₀ base outer h₀ → Fr h₀ L s.heap m → (hd.heap_39 w.params).In h₀ → News h₀ L s.heap news → Top hd.view_39 lo mean mg mb h₀ → cs.kind = .function →
    dp + d ≤ 330 → un + 8 * d ≤ 500 →
    (∀ (v : Value) (tl : List (Addr × Obj)) (h' : Heap) (tk' : Nat), Fr h₀ L h' m → News h₀ L h' (tl ++ news) → R v tl → Q v { s with heap := h', toks := tk' }) →
      wpAny (model PySem.Challenge.rw_xj0001_01.row.prog w) (ktrTop dp un gd cn cs L a ccd cl outer) (call (.ref f) vs) Q E s
theorem Claim.use {w : World} {mean : ExcName → Option Value} {mg mb : Str → Option Value} {d : Nat} {f : Addr} {vs : List Value} {news : List (Addr × Obj)} {R : Value → List (Addr × Obj) → Prop}
    {dp un : Nat} {gd : Option (List Code)} {cn : Str} {cs : Scope} {a : Addr} {ccd : Value} {cl : List (Str × Addr)} {outer : List Env} {A₀ : Around} {base h₀ : Heap} {L : Addr} {m : Str → Option Value} {s : Shared} {Q E : Value → Shared → Prop}
    (C : Claim w mean mg mb d f vs news R) (B : Below A₀ base outer h₀) (F : Fr h₀ L s.heap m) (X : (hd.heap_39 w.params).In h₀) (N : News h₀ L s.heap news) (T : Top hd.view_39 lo mean mg mb h₀) (hk : cs.kind = .function)
    (hd : dp + d ≤ 330) (hu : un + 8 * d ≤ 500)
    (k : ∀ (v : Value) (tl : List (Addr × Obj)) (h' : Heap) (tk' : Nat), Fr h₀ L h' m → News h₀ L h' (tl ++ news) → R v tl → Q v { s with heap := h', toks := tk' }) :
      wpAny (model PySem.Challenge.rw_xj0001_01.row.prog w) (ktrTop dp un gd cn cs L a ccd cl outer) (call (.ref f) vs) Q E s :=
  C dp un gd cn cs a ccd cl outer A₀ base h₀ L m s Q E B F X N T hk hd hu k
/-- nothing new on the ledger -/
theorem ret0 {h₀ h' : Heap} {L : Addr} {m : Str → Option Value} {news : List (Addr × Obj)} {s : Shared} {Q : Value → Shared → Prop} {R : Value → List (Addr × Obj) → Prop} {v : Value} {tk' : Nat} {news' : List (Addr × Obj)}
    (hret : ∀ (v : Value) (tl : List (Addr × Obj)) (h' : Heap) (tk' : Nat), Fr h₀ L h' m → News h₀ L h' (tl ++ news) → R v tl → Q v { s with heap := h', toks := tk' })
    (F : Fr h₀ L h' m) (N : News h₀ L h' news') (hs : ∀ p ∈ news, p ∈ news') (r : R v []) : Q v { s with heap := h', toks := tk' } := hret v [] h' tk' F (fun p hp => N p (hs p hp)) r
theorem item_at {prog : Program} {w : World} {A : Around} {E : Value → Shared → Prop} {s : Shared} {h₀ : Heap} {L l : Addr} {news : List (Addr × Obj)} {its : Array Value} {n : Nat} {i : Int} {u : Tok} {v : Value} {value slice : Expr} {Q : Value → Shared → Prop}
    (N : News h₀ L s.heap news) (hm : (l, listOf its n) ∈ news) (h0 : 0 ≤ i) (h1 : i < 2 ^ 63) (hx : its[i.toNat]? = some v) (h : Q v s)
    (hs : subscripted slice false (.ref l) (.int i u) = operate [.ref l, .int i u] (getItem (.ref l) (.int i u)) := by with_unfolding_all rfl) :
    wpAny (model prog w) A (subscriptTail value slice (.ref l) (.int i u)) Q E s :=
  tail_any (News.isList N hm).typeIs slot_list_getitem.lookup (wpAny_getItem_list (News.isList N hm) h0 h1 hx h) hs
noncomputable def pick4 {α : Type} (i : Int) (a b c d : α) : α := if i = 0 then a else if i = 1 then b else if i = 2 then c else d
noncomputable def pick2 {α : Type} (i : Int) (a b : α) : α := if i = 0 then a else b
theorem item_pick4 {α : Type} (f : α → Tok → Value) {prog : Program} {w : World} {A : Around} {E : Value → Shared → Prop} {s : Shared} {h₀ : Heap} {L l : Addr} {news : List (Addr × Obj)} {n : Nat} {i : Int} {u : Tok} {a b c d : α} {ta tb tc td : Tok} {value slice : Expr} {Q : Value → Shared → Prop}
    (N : News h₀ L s.heap news) (hm : (l, listOf #[f a ta, f b tb, f c tc, f d td] n) ∈ news) (h0 : 0 ≤ i) (h1 : i < 4) (h : ∀ t, Q (f (pick4 i a b c d) t) s)
    (hs : subscripted slice false (.ref l) (.int i u) = operate [.ref l, .int i u] (getItem (.ref l) (.int i u)) := by with_unfolding_all rfl) :
    wpAny (model prog w) A (subscriptTail value slice (.ref l) (.int i u)) Q E s := by
  refine item_at (v := f (pick4 i a b c d) (pick4 i ta tb tc td)) N hm h0 (by omega) ?_ (h _) hs
  have : i = 0 ∨ i = 1 ∨ i = 2 ∨ i = 3 := by omega
  rcases this with rfl | rfl | rfl | rfl <;> rfl
theorem item_pick2 {α : Type} (f : α → Tok → Value) {prog : Program} {w : World} {A : Around} {E : Value → Shared → Prop} {s : Shared} {h₀ : Heap} {L l : Addr} {news : List (Addr × Obj)} {n : Nat} {i : Int} {u : Tok} {a b : α} {ta tb : Tok} {value slice : Expr} {Q : Value → Shared → Prop}
    (N : News h₀ L s.heap news) (hm : (l, listOf #[f a ta, f b tb] n) ∈ news) (h0 : 0 ≤ i) (h1 : i < 2) (h : ∀ t, Q (f (pick2 i a b) t) s)
    (hs : subscripted slice false (.ref l) (.int i u) = operate [.ref l, .int i u] (getItem (.ref l) (.int i u)) := by with_unfolding_all rfl) :
    wpAny (model prog w) A (subscriptTail value slice (.ref l) (.int i u)) Q E s := by
  refine item_at (v := f (pick2 i a b) (pick2 i ta tb)) N hm h0 (by omega) ?_ (h _) hs
  have : i = 0 ∨ i = 1 := by omega
  rcases this with rfl | rfl <;> rfl
theorem pick4_len {i : Int} {a b c d : Str} {n : Nat} (ha : a.length ≤ n) (hb : b.length ≤ n) (hc : c.length ≤ n) (hd : d.length ≤ n) : (pick4 i a b c d).length ≤ n := by
  unfold pick4; split; · exact ha
  split; · exact hb
  split; · exact hc
  exact hd
theorem pick2_len {i : Int} {a b : Str} {n : Nat} (ha : a.length ≤ n) (hb : b.length ≤ n) : (pick2 i a b).length ≤ n := by
  unfold pick2; split; · exact ha
  exact hb
theorem item_pickS4 (z : Nat) {prog : Program} {w : World} {A : Around} {E : Value → Shared → Prop} {s : Shared} {h₀ : Heap} {L l : Addr} {news : List (Addr × Obj)} {n : Nat} {i : Int} {u : Tok} {a b c d : Str} {ta tb tc td : Tok} {value slice : Expr} {Q : Value → Shared → Prop}
    (N : News h₀ L s.heap news) (hm : (l, listOf #[.str a ta, .str b tb, .str c tc, .str d td] n) ∈ news) (h0 : 0 ≤ i) (h1 : i < 4) (ha : a.length ≤ z) (hb : b.length ≤ z) (hc : c.length ≤ z) (hd : d.length ≤ z)
    (h : ∀ t, (pick4 i a b c d).length ≤ z → Q (.str (pick4 i a b c d) t) s)
    (hs : subscripted slice false (.ref l) (.int i u) = operate [.ref l, .int i u] (getItem (.ref l) (.int i u)) := by with_unfolding_all rfl) :
    wpAny (model prog w) A (subscriptTail value slice (.ref l) (.int i u)) Q E s :=
  item_pick4 (fun x t => Value.str x t) N hm h0 h1 (fun t => h t (pick4_len ha hb hc hd)) hs
theorem item_pickS2 {prog : Program} {w : World} {A : Around} {E : Value → Shared → Prop} {s : Shared} {h₀ : Heap} {L l : Addr} {news : List (Addr × Obj)} {n : Nat} {i : Int} {u : Tok} {a b : Str} {ta tb : Tok} {value slice : Expr} {Q : Value → Shared → Prop}
    (N : News h₀ L s.heap news) (hm : (l, listOf #[.str a ta, .str b tb] n) ∈ news) (h0 : 0 ≤ i) (h1 : i < 2) (ha : a.length ≤ 3) (hb : b.length ≤ 3)
    (h : ∀ t, (pick2 i a b).length ≤ 3 → Q (.str (pick2 i a b) t) s)
    (hs : subscripted slice false (.ref l) (.int i u) = operate [.ref l, .int i u] (getItem (.ref l) (.int i u)) := by with_unfolding_all rfl) :
    wpAny (model prog w) A (subscriptTail value slice (.ref l) (.int i u)) Q E s :=
  item_pick2 (fun x t => Value.str x t) N hm h0 h1 (fun t => h t (pick2_len ha hb)) hs
theorem item_pickI2 {prog : Program} {w : World} {A : Around} {E : Value → Shared → Prop} {s : Shared} {h₀ : Heap} {L l : Addr} {news : List (Addr × Obj)} {n : Nat} {i : Int} {u : Tok} {a b : Int} {ta tb : Tok} {value slice : Expr} {Q : Value → Shared → Prop}
    (N : News h₀ L s.heap news) (hm : (l, listOf #[.int a ta, .int b tb] n) ∈ news) (h0 : 0 ≤ i) (h1 : i < 2)
    (h : ∀ t, Q (.int (pick2 i a b) t) s)
    (hs : subscripted slice false (.ref l) (.int i u) = operate [.ref l, .int i u] (getItem (.ref l) (.int i u)) := by with_unfolding_all rfl) :
    wpAny (model prog w) A (subscriptTail value slice (.ref l) (.int i u)) Q E s :=
  item_pick2 (fun x t => Value.int x t) N hm h0 h1 h hs
theorem int_eq {x y : Int} {t : Tok} (h : x = y) : ∃ t', Value.int x t = Value.int y t' := ⟨t, by rw [h]⟩
theorem unrEnd_of {h₀ : Heap} {L I : Addr} {it : Obj} {rest : (Str → Option Value) → List (Addr × Obj) → Prop} {s₁ : Shared} {h' : Heap} {tk : Nat} {m' : Str → Option Value} {z : List (Addr × Obj)} (F : Fr h₀ L h' m') (N : News h₀ L h' ((I, it) :: z)) (l1 : ∀ p ∈ z, p.1 < I)
    (r : rest m' z) : UnrEnd h₀ L s₁ I it rest { s₁ with heap := h', toks := tk } := UnrEnd.intro F N z (fun _ hp => hp) (fun p hp => Nat.ne_of_lt (l1 p hp)) r
theorem unrEndW_of {h₀ : Heap} {L I : Addr} {it : Obj} {rest : (Str → Option Value) → List (Addr × Obj) → Prop} {s₁ : Shared} {h' : Heap} {tk : Nat} {m' : Str → Option Value} {z : List (Addr × Obj)} (F : Fr h₀ L h' m') (N : News h₀ L h' ((I, it) :: z)) (l1 : ∀ p ∈ z, p.1 < I)
    (r : rest m' z) : UnrEndW h₀ L s₁ [(I, it)] rest { s₁ with heap := h', toks := tk } := ⟨h', tk, m', z, rfl, F, N, (fun p hp q hq e => by
      rcases List.mem_cons.mp hq with rfl | hq
      · exact absurd e (Nat.ne_of_lt (l1 p hp))
      · exact nomatch hq), r⟩
-- «mine intro»: what stands ahead of a contract's walk
-- «mine sub»: a part of the ledger
local macro_rules | `(tactic| walk_at $s:str) => `(tactic| k_extra $s)
section
open PySem PySem.W PyProof.Rows PySem.Calls PySem.Spec
theorem words_C1 : True := by
  w_top off
  k_with_none
  k_with "mine room" => ((simp only [depth_under_make, depth_under_kw, depth_in1, depth_deeper, depth_caller, recursionLimit] at *; (try dsimp only [ktrTop] at *); omega))
  k_with "mine enter" => ((refine wpAny_call ?_; first
  | (refine' code_def ?y2k1 ?y2k2 ?y2k3 ?y2k4 ?y2k5 ?y2kA ?y2kF ?y2kK ?y2k6 ?y2k7 ?y2k8 ?y2k9 ?y2kB ?_ ?y2c2 ?y2c3 ?y2c4 ?y2c5; (case y2kA => exact rfl); (case y2kF => exact rfl); (case y2kK => first | exact rfl | assumption); (case y2k1 => k_asm); (case y2k2 => k_asm); (case y2k3 => k_asm); (case y2k4 => k_asm); (case y2k5 => k_asm); (case y2k6 => k_is); (case y2k7 => k_is); (case y2k8 => walk_at "mine room"); (case y2k9 => first | exact BindsTo.of_eq rfl | exact binds_K (by k_in) rfl (by k_is) rfl rfl rfl); (case y2c5 => decide); (case y2kB => exact locs rfl); (case y2c2 => exact rfl); (case y2c3 => exact rfl); (case y2c4 => exact rfl); k_whole; intro w9g' w9L' w9h' w9FG' w9F' w9N' w9B' w9X' w9T'; (try dsimp only); (try k_lift w9B'); (try k_fold))
  | (refine' code_defC ?y2k1 ?y2k2 ?y2k3 ?y2k4 ?y2k5 ?y2kA ?y2kF ?y2kK ?y2k6 ?y2k7 ?y2k8 ?y2k9 ?y2kB ?y2kD ?_ ?y2c2 ?y2c3 ?y2c4; (case y2kA => exact rfl); (case y2kF => exact rfl); (case y2kK => first | exact rfl | assumption); (case y2k1 => k_asm); (case y2k2 => k_asm); (case y2k3 => k_asm); (case y2k4 => k_asm); (case y2k5 => k_asm); (case y2k6 => k_is); (case y2k7 => k_is); (case y2k8 => walk_at "mine room"); (case y2k9 => first | exact BindsTo.of_eq rfl | exact binds_K (by k_in) rfl (by k_is) rfl rfl rfl); (case y2kB => exact rfl); (case y2kD => decide +kernel); (case y2c2 => exact rfl); (case y2c3 => exact rfl); (case y2c4 => exact rfl); k_whole; intro w9g' w9L' w9h' w9tk' w9cells' w9FG' w9F' w9N' w9Y' w9B' w9X' w9T' w9l1; (try k_lt w9l1); k_cells w9Y'; (try simp only [List.cons_append, List.nil_append] at w9N'); (try dsimp only); (try k_lift w9B'); (try k_fold))))
  k_with "call ref" => ((k_here; k_dflt (walk_at "mine enter")))
  k_with "execs cons" => ((k_here; (try k_gentoks); (try dsimp only); (with_reducible refine wpAny_execs_cons ?_); (try dsimp only); k_fold))
  k_with "mine bound" => (first | omega | exact Int.fmod_nonneg_of_pos _ (by decide) | exact Int.fmod_lt_of_pos _ (by decide))
  k_with "mine short" => (first | exact Nat.le_of_ble_eq_true rfl | ((try simp only [PySem.Str.length_append]); (try kopn_lits); omega))
  k_with "mine open" => ((fail_if_success (with_reducible show wpAny _ _ (subscriptTail _ (Expr.Constant _ _ _) _ _) _ _ _)))
  k_with "subscriptTail" => ((k_here; (with_reducible show wpAny _ _ (subscriptTail _ _ (Value.ref _) (Value.int _ _)) _ _ _); walk_at "mine open"; k_dflt (first
  | (refine item_pickS4 3 (by k_asm) (List.Mem.head _) (by walk_at "mine bound") (by walk_at "mine bound") (by walk_at "mine short") (by walk_at "mine short") (by walk_at "mine short") (by walk_at "mine short") ?_; intro _ _)
  | (refine item_pickS4 60 (by k_asm) (List.Mem.head _) (by walk_at "mine bound") (by walk_at "mine bound") (by walk_at "mine short") (by walk_at "mine short") (by walk_at "mine short") (by walk_at "mine short") ?_; intro _ _)
  | (refine item_pickS2 (by k_asm) (List.Mem.head _) (by walk_at "mine bound") (by walk_at "mine bound") (by walk_at "mine short") (by walk_at "mine short") ?_; intro _ _)
  | (refine item_pickI2 (by k_asm) (List.Mem.head _) (by walk_at "mine bound") (by walk_at "mine bound") ?_; intro _))))
  k_with "mine mem" => (first | exact List.Mem.head _ | (refine List.Mem.tail _ ?_; walk_at "mine mem"))
  k_with "pyIter ref" => (((with_reducible show wpAny _ _ (pyIter (Value.ref _)) (fun it s₂ => LoopAtV _ _ _ _ _ _ _ _ _ it s₂) _ _); with_unfolding_all refine iter_listUnr (by rfl) (by k_asm) (by k_asm) (by walk_at "mine mem") (by rfl) (by rfl) ?_; intro w9i' w9l1))
  k_with "UnrEnd" => ((refine unrEnd_of (by k_asm) (by k_asm) (by assumption) ⟨by walk_at "mine mem", ?_⟩))
  k_with "pyIter ref" => (((with_reducible show wpAny _ _ (pyIter (Value.ref _)) (fun it s₂ => TurnsAt _ _ _ _ _ _ _ _ _ it s₂) _ _); with_unfolding_all refine iter_listTurns (by rfl) (by k_asm) (by k_asm) (by walk_at "mine mem") (by rfl) (by rfl) ?_; intro w9i' w9l1))
  k_with "UnrEndW" => ((refine unrEndW_of (by k_asm) (by k_asm) (by assumption) ⟨⟨by walk_at "mine mem", trivial⟩, ?_⟩))
  k_with "mine sub" => ((intro w9p w9hp; first | exact w9hp | (simp only [List.mem_cons, List.mem_append] at w9hp ⊢; first | (simp only [w9hp, true_or, or_true]; done) | (rcases w9hp with w9hp | w9hp <;> simp only [w9hp, true_or, or_true] <;> done))))
  trivial
set_option maxHeartbeats 8000000 in
theorem com_full {w : World} {mean : ExcName → Option Value} {mg mb : Str → Option Value} {news : List (Addr × Obj)} (x y : Str) (t : Tok) (hx : x.length ≤ 64) (hy : Txt.rstrip x = y) (hn : y.length ≠ 0) :
    Claim w mean mg mb 3 51 [.str x t] news (fun v tl => tl = [] ∧ ∃ t, v = .str (Str.ofString "# " ++ y) t) := by
  delta Claim; k_fill
  intro dp un gd cn cs a ccd cl outer A₀ base h₀ L m s Q E B F X N T hk hd hu hret
  walk_at "mine enter"
  k_steps
  · subst hy; refine ret0 hret (by k_asm) (by k_asm) (by walk_at "mine sub") ⟨rfl, _, rfl⟩
  · exfalso; subst hy; omega
set_option maxHeartbeats 8000000 in
theorem com_empty {w : World} {mean : ExcName → Option Value} {mg mb : Str → Option Value} {news : List (Addr × Obj)} (x : Str) (t : Tok) (hx : x.length ≤ 64) (hy : (Txt.rstrip x).length = 0) :
    Claim w mean mg mb 3 51 [.str x t] news (fun v tl => tl = [] ∧ ∃ t, v = .str (Str.ofString "#") t) := by
  delta Claim; k_fill
  intro dp un gd cn cs a ccd cl outer A₀ base h₀ L m s Q E B F X N T hk hd hu hret
  walk_at "mine enter"
  k_steps
  · exfalso; omega
  · refine ret0 hret (by k_asm) (by k_asm) (by walk_at "mine sub") ⟨rfl, _, rfl⟩
end
section
open PySem PySem.W PyProof.Rows PySem.Calls PySem.Spec
theorem words_C2 : True := by
  w_top off
  k_with_none
  k_with "mine room" => ((simp only [depth_under_make, depth_under_kw, depth_in1, depth_deeper, depth_caller, recursionLimit] at *; (try dsimp only [ktrTop] at *); omega))
  k_with "mine enter" => ((refine wpAny_call ?_; first
  | (refine' code_def ?y2k1 ?y2k2 ?y2k3 ?y2k4 ?y2k5 ?y2kA ?y2kF ?y2kK ?y2k6 ?y2k7 ?y2k8 ?y2k9 ?y2kB ?_ ?y2c2 ?y2c3 ?y2c4 ?y2c5; (case y2kA => exact rfl); (case y2kF => exact rfl); (case y2kK => first | exact rfl | assumption); (case y2k1 => k_asm); (case y2k2 => k_asm); (case y2k3 => k_asm); (case y2k4 => k_asm); (case y2k5 => k_asm); (case y2k6 => k_is); (case y2k7 => k_is); (case y2k8 => walk_at "mine room"); (case y2k9 => first | exact BindsTo.of_eq rfl | exact binds_K (by k_in) rfl (by k_is) rfl rfl rfl); (case y2c5 => decide); (case y2kB => exact locs rfl); (case y2c2 => exact rfl); (case y2c3 => exact rfl); (case y2c4 => exact rfl); k_whole; intro w9g' w9L' w9h' w9FG' w9F' w9N' w9B' w9X' w9T'; (try dsimp only); (try k_lift w9B'); (try k_fold))
  | (refine' code_defC ?y2k1 ?y2k2 ?y2k3 ?y2k4 ?y2k5 ?y2kA ?y2kF ?y2kK ?y2k6 ?y2k7 ?y2k8 ?y2k9 ?y2kB ?y2kD ?_ ?y2c2 ?y2c3 ?y2c4; (case y2kA => exact rfl); (case y2kF => exact rfl); (case y2kK => first | exact rfl | assumption); (case y2k1 => k_asm); (case y2k2 => k_asm); (case y2k3 => k_asm); (case y2k4 => k_asm); (case y2k5 => k_asm); (case y2k6 => k_is); (case y2k7 => k_is); (case y2k8 => walk_at "mine room"); (case y2k9 => first | exact BindsTo.of_eq rfl | exact binds_K (by k_in) rfl (by k_is) rfl rfl rfl); (case y2kB => exact rfl); (case y2kD => decide +kernel); (case y2c2 => exact rfl); (case y2c3 => exact rfl); (case y2c4 => exact rfl); k_whole; intro w9g' w9L' w9h' w9tk' w9cells' w9FG' w9F' w9N' w9Y' w9B' w9X' w9T' w9l1; (try k_lt w9l1); k_cells w9Y'; (try simp only [List.cons_append, List.nil_append] at w9N'); (try dsimp only); (try k_lift w9B'); (try k_fold))))
  k_with "call ref" => ((k_here; k_dflt (walk_at "mine enter")))
  k_with "execs cons" => ((k_here; (try k_gentoks); (try dsimp only); (with_reducible refine wpAny_execs_cons ?_); (try dsimp only); k_fold))
  k_with "mine bound" => (first | omega | exact Int.fmod_nonneg_of_pos _ (by decide) | exact Int.fmod_lt_of_pos _ (by decide))
  k_with "mine short" => (first | exact Nat.le_of_ble_eq_true rfl | ((try simp only [PySem.Str.length_append]); (try kopn_lits); omega))
  k_with "mine open" => ((fail_if_success (with_reducible show wpAny _ _ (subscriptTail _ (Expr.Constant _ _ _) _ _) _ _ _)))
  k_with "subscriptTail" => ((k_here; (with_reducible show wpAny _ _ (subscriptTail _ _ (Value.ref _) (Value.int _ _)) _ _ _); walk_at "mine open"; k_dflt (first
  | (refine item_pickS4 3 (by k_asm) (List.Mem.head _) (by walk_at "mine bound") (by walk_at "mine bound") (by walk_at "mine short") (by walk_at "mine short") (by walk_at "mine short") (by walk_at "mine short") ?_; intro _ _)
  | (refine item_pickS4 60 (by k_asm) (List.Mem.head _) (by walk_at "mine bound") (by walk_at "mine bound") (by walk_at "mine short") (by walk_at "mine short") (by walk_at "mine short") (by walk_at "mine short") ?_; intro _ _)
  | (refine item_pickS2 (by k_asm) (List.Mem.head _) (by walk_at "mine bound") (by walk_at "mine bound") (by walk_at "mine short") (by walk_at "mine short") ?_; intro _ _)
  | (refine item_pickI2 (by k_asm) (List.Mem.head _) (by walk_at "mine bound") (by walk_at "mine bound") ?_; intro _))))
  k_with "mine mem" => (first | exact List.Mem.head _ | (refine List.Mem.tail _ ?_; walk_at "mine mem"))
  k_with "pyIter ref" => (((with_reducible show wpAny _ _ (pyIter (Value.ref _)) (fun it s₂ => LoopAtV _ _ _ _ _ _ _ _ _ it s₂) _ _); with_unfolding_all refine iter_listUnr (by rfl) (by k_asm) (by k_asm) (by walk_at "mine mem") (by rfl) (by rfl) ?_; intro w9i' w9l1))
  k_with "UnrEnd" => ((refine unrEnd_of (by k_asm) (by k_asm) (by assumption) ⟨by walk_at "mine mem", ?_⟩))
  k_with "pyIter ref" => (((with_reducible show wpAny _ _ (pyIter (Value.ref _)) (fun it s₂ => TurnsAt _ _ _ _ _ _ _ _ _ it s₂) _ _); with_unfolding_all refine iter_listTurns (by rfl) (by k_asm) (by k_asm) (by walk_at "mine mem") (by rfl) (by rfl) ?_; intro w9i' w9l1))
  k_with "UnrEndW" => ((refine unrEndW_of (by k_asm) (by k_asm) (by assumption) ⟨⟨by walk_at "mine mem", trivial⟩, ?_⟩))
  k_with "mine sub" => ((intro w9p w9hp; first | exact w9hp | (simp only [List.mem_cons, List.mem_append] at w9hp ⊢; first | (simp only [w9hp, true_or, or_true]; done) | (rcases w9hp with w9hp | w9hp <;> simp only [w9hp, true_or, or_true] <;> done))))
  k_with "call ref" => ((k_here; (with_reducible show wpAny _ _ (call (Value.ref 51) [Value.str _ _]) _ _ _); k_dflt (first
  | ((with_reducible show wpAny _ _ (call (Value.ref 51) [Value.str (Txt.mul _ _ ++ _ ++ _) _]) _ _ _); refine' Claim.use (com_full _ _ _ ?y15h1 ?y15h2 ?y15h3) ?y15B ?y15F ?y15X ?y15N ?y15T ?y15K ?y15d ?y15u ?_; (case y15B => k_asm); (case y15F => k_asm); (case y15X => k_asm); (case y15N => k_asm); (case y15T => k_asm); (case y15K => first | exact rfl | assumption); (case y15d => walk_at "mine room"); (case y15u => walk_at "mine room"); (case y15h2 => with_reducible exact (rowT_is (by assumption) (by assumption) (by assumption) (by assumption)).1); (case y15h3 => with_reducible exact (rowT_is (by assumption) (by assumption) (by assumption) (by assumption)).2); (case y15h1 => walk_at "mine short"); k_whole; intro w9v' w9tl' w9h' w9tk' w9F' w9N' w9r'; obtain ⟨w9tl0, w9t9, w9v0⟩ := w9r'; subst w9tl0; subst w9v0; (try simp only [List.nil_append, List.cons_append] at w9N'); (try dsimp only); (try k_sweep))
  | ((with_reducible show wpAny _ _ (call (Value.ref 51) [Value.str (Txt.mul _ _ ++ _) _]) _ _ _); refine' Claim.use (com_empty _ _ ?y15h1 ?y15h2) ?y15B ?y15F ?y15X ?y15N ?y15T ?y15K ?y15d ?y15u ?_; (case y15B => k_asm); (case y15F => k_asm); (case y15X => k_asm); (case y15N => k_asm); (case y15T => k_asm); (case y15K => first | exact rfl | assumption); (case y15d => walk_at "mine room"); (case y15u => walk_at "mine room"); (case y15h2 => with_reducible exact rowB_is (by omega) (by assumption) (by assumption) (by assumption)); (case y15h1 => walk_at "mine short"); k_whole; intro w9v' w9tl' w9h' w9tk' w9F' w9N' w9r'; obtain ⟨w9tl0, w9t9, w9v0⟩ := w9r'; subst w9tl0; subst w9v0; (try simp only [List.nil_append, List.cons_append] at w9N'); (try dsimp only); (try k_sweep)))))
  trivial
noncomputable abbrev rowT (h : Int) : Str := Txt.mul (Str.ofString " ") (h - 1) ++ Str.ofString "*"
noncomputable abbrev rowB (h : Int) : Str := Txt.mul (Str.ofString " ") (-h)
noncomputable abbrev tailT (way : Int) : Str := pick4 way (Str.ofString "") (Str.ofString " ") (Str.ofString "\t") (Str.ofString "\n")
theorem rowT_n : ∀ n : Fin 16, ∀ k : Fin 4, Txt.rstrip (rowT (n.val + 1) ++ tailT k.val) = rowT (n.val + 1) ∧ (rowT (n.val + 1)).length ≠ 0 := by decide +kernel
theorem rowB_n : ∀ n : Fin 17, ∀ k : Fin 4, (Txt.rstrip (rowB (-n.val) ++ tailT k.val)).length = 0 := by decide +kernel
theorem rowT_is {h way : Int} (h1 : 0 < h) (h2 : h ≤ 16) (w1 : 0 ≤ way) (w2 : way < 4) : Txt.rstrip (rowT h ++ tailT way) = rowT h ∧ (rowT h).length ≠ 0 := by
  have e1 : h = (⟨(h - 1).toNat, by omega⟩ : Fin 16).val + 1 := by simp only; omega
  have e2 : way = (⟨way.toNat, by omega⟩ : Fin 4).val := by simp only; omega
  have := rowT_n ⟨(h - 1).toNat, by omega⟩ ⟨way.toNat, by omega⟩
  rw [← e1, ← e2] at this; exact this
theorem rowB_is {h way : Int} (h1 : h ≤ 0) (h2 : -16 ≤ h) (w1 : 0 ≤ way) (w2 : way < 4) : (Txt.rstrip (rowB h ++ tailT way)).length = 0 := by
  have e1 : h = -((⟨(-h).toNat, by omega⟩ : Fin 17).val : Int) := by simp only; omega
  have e2 : way = (⟨way.toNat, by omega⟩ : Fin 4).val := by simp only; omega
  have := rowB_n ⟨(-h).toNat, by omega⟩ ⟨way.toNat, by omega⟩
  rw [← e1, ← e2] at this; exact this
set_option maxHeartbeats 8000000 in
theorem over_c {w : World} {mean : ExcName → Option Value} {mg mb : Str → Option Value} {news : List (Addr × Obj)} (height way : Int) (t t2 : Tok) (h1 : -16 ≤ height) (h2 : height ≤ 16) (h3 : 0 ≤ way) (h4 : way < 4) :
    Claim w mean mg mb 6 155 [.int height t, .int way t2] news (fun v tl => tl = [] ∧ ∃ t, v = .int (max height 0) t) := by
  delta Claim; k_fill
  intro dp un gd cn cs a ccd cl outer A₀ base h₀ L m s Q E B F X N T hk hd hu hret
  walk_at "mine enter"
  k_steps
  · (rename ((_ : Str) != _) = true => q); exact absurd q (by simp)
  · refine ret0 hret (by k_asm) (by k_asm) (by walk_at "mine sub") ⟨rfl, int_eq ?_⟩
    kopn_lits; omega
  · refine ret0 hret (by k_asm) (by k_asm) (by walk_at "mine sub") ⟨rfl, int_eq ?_⟩
    omega
end
section
open PySem PySem.W PyProof.Rows PySem.Calls PySem.Spec
theorem re_attrs : PlainAttrs "re.Pattern" :=
  ⟨⟨"object.__getattribute__", by rw [typeLookup_type, builtinLookup_eq_fast]; kernel_rfl, by decide +kernel⟩, by rw [typeLookup_type, builtinLookup_eq_fast]; kernel_rfl⟩
theorem rm_attrs : PlainAttrs "re.Match" :=
  ⟨⟨"object.__getattribute__", by rw [typeLookup_type, builtinLookup_eq_fast]; kernel_rfl, by decide +kernel⟩, by rw [typeLookup_type, builtinLookup_eq_fast]; kernel_rfl⟩
theorem slot_search : Slot "re.Pattern" "search" "re.Pattern.search" :=
  .of (owner := "re.Pattern") (n := "search") (by rw [typeLookup_type, builtinLookup_eq_fast]; kernel_rfl) (by decide +kernel) (by decide +kernel) (by decide +kernel)
    (by first | exact .inl (by decide +kernel) | exact .inr (by decide +kernel)) (by rw [isSubtype_type]; kernel_rfl)
theorem slot_sub : Slot "re.Pattern" "sub" "re.Pattern.sub" :=
  .of (owner := "re.Pattern") (n := "sub") (by rw [typeLookup_type, builtinLookup_eq_fast]; kernel_rfl) (by decide +kernel) (by decide +kernel) (by decide +kernel)
    (by first | exact .inl (by decide +kernel) | exact .inr (by decide +kernel)) (by rw [isSubtype_type]; kernel_rfl)
theorem slot_group : Slot "re.Match" "group" "re.Match.group" :=
  .of (owner := "re.Match") (n := "group") (by rw [typeLookup_type, builtinLookup_eq_fast]; kernel_rfl) (by decide +kernel) (by decide +kernel) (by decide +kernel)
    (by first | exact .inl (by decide +kernel) | exact .inr (by decide +kernel)) (by rw [isSubtype_type]; kernel_rfl)
theorem type_search : typeOf (.builtin "re.Pattern.search") = pure (.type "method_descriptor") := by show builtinType _ = _; rw [builtinType_eq_fast]; kernel_rfl
theorem type_sub : typeOf (.builtin "re.Pattern.sub") = pure (.type "method_descriptor") := by show builtinType _ = _; rw [builtinType_eq_fast]; kernel_rfl
theorem type_group : typeOf (.builtin "re.Match.group") = pure (.type "method_descriptor") := by show builtinType _ = _; rw [builtinType_eq_fast]; kernel_rfl
theorem entry_search : entryFor table "re.Pattern.search" = some Builtin.«re.Pattern.search» := entryFor_of_tree (by kernel_rfl)
theorem entry_sub : entryFor table "re.Pattern.sub" = some Builtin.«re.Pattern.sub» := entryFor_of_tree (by kernel_rfl)
theorem entry_loop : entryFor table "re.Pattern.sub.loop" = some Builtin.«re.Pattern.sub.loop» := entryFor_of_tree (by kernel_rfl)
theorem entry_group : entryFor table "re.Match.group" = some Builtin.«re.Match.group» := entryFor_of_tree (by kernel_rfl)
theorem args_search (a b : Value) : argsOk "re.Pattern.search" ⟨[a, b], []⟩ := by unfold argsOk; kernel_rfl
theorem args_sub (a b c : Value) : argsOk "re.Pattern.sub" ⟨[a, b, c], []⟩ := by unfold argsOk; kernel_rfl
theorem args_group (a b : Value) : argsOk "re.Match.group" ⟨[a, b], []⟩ := by unfold argsOk; kernel_rfl
theorem plain_loop : plainId "re.Pattern.sub.loop" = true := by decide +kernel
section
variable {M : Model} {A : Around} {E : Value → Shared → Prop} {s : Shared}
theorem getMethod_search {a : Addr} {o : Obj} {pl : Sem Bool} {Q : Value × List Value → Shared → Prop} (ho : s.heap.get? a = some o) (hc : o.cls = .type "re.Pattern") (hd : o.dict = none)
    (h : Q (.builtin "re.Pattern.search", [.ref a]) s) : wpAny M A (getMethod (.ref a) "search" pl) Q E s :=
  getMethod_builtin (T := "re.Pattern") ⟨o, ho, hc⟩ re_attrs slot_search type_search (fun _ e => by cases e; exact ⟨o, ho, hd⟩) h
theorem getMethod_sub {a : Addr} {o : Obj} {pl : Sem Bool} {Q : Value × List Value → Shared → Prop} (ho : s.heap.get? a = some o) (hc : o.cls = .type "re.Pattern") (hd : o.dict = none)
    (h : Q (.builtin "re.Pattern.sub", [.ref a]) s) : wpAny M A (getMethod (.ref a) "sub" pl) Q E s :=
  getMethod_builtin (T := "re.Pattern") ⟨o, ho, hc⟩ re_attrs slot_sub type_sub (fun _ e => by cases e; exact ⟨o, ho, hd⟩) h
theorem getMethod_group {a : Addr} {o : Obj} {pl : Sem Bool} {Q : Value × List Value → Shared → Prop} (ho : s.heap.get? a = some o) (hc : o.cls = .type "re.Match") (hd : o.dict = none)
    (h : Q (.builtin "re.Match.group", [.ref a]) s) : wpAny M A (getMethod (.ref a) "group" pl) Q E s :=
  getMethod_builtin (T := "re.Match") ⟨o, ho, hc⟩ rm_attrs slot_group type_group (fun _ e => by cases e; exact ⟨o, ho, hd⟩) h
end
end
section
open PySem PySem.W PyProof.Rows PySem.Calls PySem.Spec
open PySem.Builtin PySem.Builtin.Re
theorem rm_no_bool : typeLookup (.type "re.Match") "__bool__" = pure none := by rw [typeLookup_type, builtinLookup_eq_fast]; kernel_rfl
theorem rm_no_len : typeLookup (.type "re.Match") "__len__" = pure none := by rw [typeLookup_type, builtinLookup_eq_fast]; kernel_rfl
noncomputable def driveN : Nat → Sre.M → Option Sre.M
  | 0, _ => none
  | n + 1, m => if (m.runFor 4).outcome.isSome = true then some (m.runFor 4) else driveN n (m.runFor 4)
section
variable {M : Model} {A : Around} {E : Value → Shared → Prop} {s : Shared}
theorem wp_drive {m' : Sre.M} {Q : Sre.M → Shared → Prop} : ∀ (n turns : Nat) (m : Sre.M), n ≤ turns → driveN n m = some m' → Q m' s → wpAny M A (reDrive turns m) Q E s
  | 0, _, _, _, h, _ => by cases h
  | n + 1, 0, _, h, _, _ => absurd h (by omega)
  | n + 1, t + 1, m, hn, h, hQ => by
    unfold reDrive
    show wpAny M A (if (m.runFor 4).outcome.isSome = true then pure (m.runFor 4) else do rule "sre.turn"; reDrive t (m.runFor 4)) Q E s
    unfold driveN at h
    split at h
    · rename_i q; rw [if_pos q]; cases h; exact wpAny_pure hQ
    · rename_i q; rw [if_neg q]; exact wpAny_bind (wpAny_rule (wp_drive n t _ (by omega) h hQ))
theorem wp_end {m m' : Sre.M} {n : Nat} {Q : Option Sre.M → Shared → Prop} (hn : n ≤ 1000) (h : driveN n m = some m')
    (hq : (m'.outcome = some .matched ∧ Q (some m') s) ∨ (m'.outcome = some .failed ∧ Q none s)) : wpAny M A (reRunToEnd m) Q E s := by
  unfold reRunToEnd
  refine wpAny_bind (wp_drive n _ m (Nat.le_trans hn (by decide)) h ?_)
  refine wpAny_bind (wpAny_forIn_list _ (fun _ _ s' => s' = s) _ ?_ ?_ _ _ rfl)
  · intro x rest b s1 e
    subst e
    split
    · exact fun _ _ _ => rfl
    · exact fun _ _ _ => rfl
  · intro b s1 e
    subst e
    rcases hq with ⟨e, q⟩ | ⟨e, q⟩
    · rw [e]; exact wpAny_pure q
    · rw [e]; exact wpAny_pure q
theorem wp_rawItems {c : Addr} {co : Obj} {its : Array Value} {n : Nat} {Q : Array Int → Shared → Prop} (hc : s.heap.get? c = some co) (hd : co.data = .seq its n) (h : Q (its.map reRawOf) s) : wpAny M A (reRawItems (.ref c)) Q E s := by
  unfold reRawItems
  refine wpAny_bind (wpAny_seqItems hc hd ?_)
  exact wpAny_pure h
theorem wp_target {id f : String} {a c : Addr} {o co : Obj} {vs code : Array Value} {n : Nat} {x : Str} {t : Tok} {Q : ReTarget → Shared → Prop} (ho : s.heap.get? a = some o) (hd : o.data = .fields vs) (h5 : vs.getD 5 .none = .ref c) (h6 : reRawNat (vs.getD 6 .none) = 0)
    (hc : s.heap.get? c = some co) (hcd : co.data = .seq code n)
    (h : Q { pattern := .ref a, string := .str x t, code := (code.map reRawOf).map (·.toNat), text := x.cps, kind := 0, groups := reRawNat (vs.getD 2 .none), pos := min (0 : Int).toNat x.cps.size, lim := min ((2 : Int) ^ 63 - 1).toNat x.cps.size } s) :
    wpAny M A (reTarget id f ⟨[.ref a, .str x t], []⟩) Q E s := by
  unfold reTarget
  refine wpAny_bind (wpAny_of_eq (a := [some (.str x t), none, none]) rfl ?_)
  dsimp only
  refine wpAny_bind (wpAny_pure ?_)
  refine wpAny_bind (wpAny_pure ?_)
  refine wpAny_bind (wpAny_fieldsOf ho hd ?_)
  refine wpAny_bind (wpAny_pure ?_)
  dsimp only
  rw [h6, h5, if_neg (by decide), if_neg (by decide)]
  refine wpAny_bind (wpAny_of_eq (a := ()) rfl ?_)
  exact wpAny_bind (wp_rawItems hc hcd (wpAny_pure h))
noncomputable def mInts (groups : Nat) (m : Sre.M) : List Int := (m.start : Int) :: (m.handed : Int) :: (List.range groups).flatMap fun g =>
    match if ((2 * g + 1 : Nat) : Int) ≤ m.lastmark then (m.marks.getD (2 * g) none, m.marks.getD (2 * g + 1) none) else (none, none) with
    | (some b, some e) => [(b : Int), (e : Int)]
    | _ => [-1, -1]
noncomputable def mBad (groups : Nat) (m : Sre.M) : Bool := (List.range groups).any (fun g => match m.marks.getD (2 * g) none, m.marks.getD (2 * g + 1) none with | some b, some e => ((2 * g + 1 : Nat) : Int) ≤ m.lastmark && e < b | _, _ => false)
noncomputable def hit (code : Array Nat) (g : Nat) (x : Array Nat) : Option (List Int × Int) := match driveN 100 (Sre.forSearch code x g 0 x.size false) with
  | none => none
  | some m => match m.outcome, mBad g m with
    | some .matched, false => some (mInts g m, m.lastindex)
    | _, _ => none
noncomputable def miss (code : Array Nat) (g : Nat) (x : Array Nat) : Bool := match driveN 100 (Sre.forSearch code x g 0 x.size false) with
  | none => false
  | some m => match m.outcome with
    | some .failed => true
    | _ => false
theorem hit_is {code x : Array Nat} {g : Nat} {l : List Int} {li : Int} (h : hit code g x = some (l, li)) : ∃ m, driveN 100 (Sre.forSearch code x g 0 x.size false) = some m ∧ m.outcome = some .matched ∧ mBad g m = false ∧ mInts g m = l ∧ m.lastindex = li := by
  unfold hit at h
  split at h
  · cases h
  · rename_i m e
    split at h
    · rename_i e1 e2; cases h; exact ⟨m, e, e1, e2, rfl, rfl⟩
    · cases h
theorem miss_is {code x : Array Nat} {g : Nat} (h : miss code g x = true) : ∃ m, driveN 100 (Sre.forSearch code x g 0 x.size false) = some m ∧ m.outcome = some .failed := by
  unfold miss at h
  split at h
  · cases h
  · rename_i m e
    split at h
    · rename_i e1; exact ⟨m, e, e1⟩
    · cases h
end
section
variable {M : Model} {A : Around} {E : Value → Shared → Prop} {s : Shared} {h₀ : Heap} {L : Addr} {m : Str → Option Value} {news : List (Addr × Obj)}
noncomputable def matchObj (x : Str) (t : Tok) (a : Addr) (pos lim : Nat) (li : Int) (tp : Addr) : Obj := { cls := .type "re.Match", data := .fields #[.str x t, .ref a, rawInt pos, rawInt lim, rawInt li, .ref tp] }
noncomputable def spanObj (l : List Int) : Obj := { cls := .type "tuple", data := .seq (l.map rawInt).toArray }
theorem spans_eq (g : Nat) (k : Sre.M) : (rawInt k.start :: rawInt k.handed :: (List.range g).flatMap fun g =>
    match if ((2 * g + 1 : Nat) : Int) ≤ k.lastmark then (k.marks.getD (2 * g) none, k.marks.getD (2 * g + 1) none) else (none, none) with
    | (some b, some e) => [rawInt b, rawInt e]
    | _ => [rawInt (-1), rawInt (-1)]) = (mInts g k).map rawInt := by
  unfold mInts
  rw [List.map_cons, List.map_cons, List.map_flatMap]
  congr 3
  funext j
  split <;> simp_all
theorem if_no {b : Bool} {u v : Sem Value} {Q : Value → Shared → Prop} (hb : b = false) (h : wpAny M A v Q E s) : wpAny M A (if b = true then u else v) Q E s := by rw [hb, if_neg Bool.false_ne_true]; exact h
theorem wp_two {x : Str} {t : Tok} {a : Addr} {pos lim : Nat} {li : Int} {l : List Int} {vs : List Value} {Q : Value → Shared → Prop} (F : Fr h₀ L s.heap m) (N : News h₀ L s.heap news) (hv : vs = l.map rawInt) (hl : l.length ≤ 100)
    (h : ∀ tp mt h', Fr h₀ L h' m → News h₀ L h' ((mt, matchObj x t a pos lim li tp) :: (tp, spanObj l) :: news) → (∀ p ∈ news, p.1 < tp) → tp < mt → Q (.ref mt) { s with heap := h' }) :
    wpAny M A (do let tp ← newTuple vs; newFields "re.Match" [.str x t, .ref a, rawInt pos, rawInt lim, rawInt li, tp]) Q E s := by
  subst hv
  refine wpAny_bind (newTuple_N F N (fun h' F' N' => ?_) ?_)
  · refine wpAny_newObj_type ?_ ?_
    · have F'' := F'.push { cls := .type "re.Match", data := .fields #[.str x t, .ref a, rawInt pos, rawInt lim, rawInt li, .ref s.heap.objs.size] }
      have N'' := N'.push F' { cls := .type "re.Match", data := .fields #[.str x t, .ref a, rawInt pos, rawInt lim, rawInt li, .ref s.heap.objs.size] }
      exact h _ _ _ F'' N'' (fun p hp => Heap.lt_size (N p hp).1) (Heap.lt_size (N' _ (.head _)).1)
    · exact Nat.le_of_ble_eq_true rfl
  · rw [List.length_map]; exact Nat.le_trans hl (by decide)
theorem wp_newMatch {x : Str} {t : Tok} {a : Addr} {g pos lim : Nat} {k : Sre.M} {Q : Value → Shared → Prop} (F : Fr h₀ L s.heap m) (N : News h₀ L s.heap news) (hb : mBad g k = false) (hl : (mInts g k).length ≤ 100)
    (h : ∀ tp mt h', Fr h₀ L h' m → News h₀ L h' ((mt, matchObj x t a pos lim k.lastindex tp) :: (tp, spanObj (mInts g k)) :: news) → (∀ p ∈ news, p.1 < tp) → tp < mt → Q (.ref mt) { s with heap := h' }) : wpAny M A (reNewMatch (.ref a) (.str x t) g pos lim k) Q E s := by
  unfold reNewMatch
  dsimp only
  exact if_no hb (wp_two F N (spans_eq g k) hl h)
end
section
variable {prog : Program} {w : World} {A : Around} {E : Value → Shared → Prop} {s : Shared} {h₀ : Heap} {L : Addr} {m : Str → Option Value} {news : List (Addr × Obj)}
theorem lim_is {n : Nat} (h : n ≤ 64) : min ((2 : Int) ^ 63 - 1).toNat n = n := by
  have : ((2 : Int) ^ 63 - 1).toNat = 9223372036854775807 := by decide
  rw [this]; omega
/-- a search that finds -/
theorem search_hit {a c : Addr} {o co : Obj} {vs code : Array Value} {n g : Nat} {x : Str} {t : Tok} {l : List Int} {li : Int} {Q : Value → Shared → Prop} (F : Fr h₀ L s.heap m) (N : News h₀ L s.heap news)
    (ho : s.heap.get? a = some o) (hcls : o.cls = .type "re.Pattern") (hd : o.data = .fields vs) (h5 : vs.getD 5 .none = .ref c) (h6 : reRawNat (vs.getD 6 .none) = 0) (h2 : reRawNat (vs.getD 2 .none) = g)
    (hc : s.heap.get? c = some co) (hcd : co.data = .seq code n) (hx : x.cps.size ≤ 64) {cN : Array Nat} (hcN : (code.map reRawOf).map (·.toNat) = cN) (hit : hit cN g x.cps = some (l, li)) (hl : l.length ≤ 100)
    (h : ∀ tp mt h', Fr h₀ L h' m → News h₀ L h' ((mt, matchObj x t a 0 x.cps.size li tp) :: (tp, spanObj l) :: news) → (∀ p ∈ news, p.1 < tp) → tp < mt → Q (.ref mt) { s with heap := h' }) :
    wpAny (model prog w) A (call (.builtin "re.Pattern.search") [.ref a, .str x t]) Q E s := by
  subst hcN
  obtain ⟨k, e1, e2, e3, e4, e5⟩ := hit_is hit
  subst e4 e5
  refine wpAny_call_entry slot_search ⟨o, ho, hcls⟩ entry_search ?_ (args_search _ _)
  unfold Builtin.«re.Pattern.search»
  refine wpAny_bind (wp_target ho hd h5 h6 hc hcd ?_)
  dsimp only
  rw [h2, lim_is hx, show min (0 : Int).toNat x.cps.size = 0 from Nat.zero_min _]
  unfold reAnswer
  refine wpAny_bind (wp_end (n := 100) (by decide) e1 (.inl ⟨e2, ?_⟩))
  exact wpAny_bind (wp_newMatch F N e3 hl fun tp mt h' F' N' l1 l2 => wpAny_pure ⟨_, rfl, h tp mt h' F' N' l1 l2⟩)
theorem search_miss {a c : Addr} {o co : Obj} {vs code : Array Value} {n g : Nat} {x : Str} {t : Tok} {Q : Value → Shared → Prop}
    (ho : s.heap.get? a = some o) (hcls : o.cls = .type "re.Pattern") (hd : o.data = .fields vs) (h5 : vs.getD 5 .none = .ref c) (h6 : reRawNat (vs.getD 6 .none) = 0) (h2 : reRawNat (vs.getD 2 .none) = g)
    (hc : s.heap.get? c = some co) (hcd : co.data = .seq code n) (hx : x.cps.size ≤ 64) {cN : Array Nat} (hcN : (code.map reRawOf).map (·.toNat) = cN) (hm : miss cN g x.cps = true)
    (h : Q .none s) :
    wpAny (model prog w) A (call (.builtin "re.Pattern.search") [.ref a, .str x t]) Q E s := by
  subst hcN
  obtain ⟨k, e1, e2⟩ := miss_is hm
  refine wpAny_call_entry slot_search ⟨o, ho, hcls⟩ entry_search ?_ (args_search _ _)
  unfold Builtin.«re.Pattern.search»
  refine wpAny_bind (wp_target ho hd h5 h6 hc hcd ?_)
  dsimp only
  rw [h2, lim_is hx, show min (0 : Int).toNat x.cps.size = 0 from Nat.zero_min _]
  unfold reAnswer
  exact wpAny_bind (wp_end (n := 100) (by decide) e1 (.inr ⟨e2, wpAny_pure ⟨_, rfl, h⟩⟩))
/-- a group's text -/
theorem group_of {mt tp a : Addr} {x : Str} {t u : Tok} {pos lim : Nat} {li : Int} {l : List Int} {g : Nat} {b e : Int} {Q : Value → Shared → Prop} (N : News h₀ L s.heap news) (h1 : (mt, matchObj x t a pos lim li tp) ∈ news) (h2 : (tp, spanObj l) ∈ news)
    (hg : g < 10) (hl : 2 * g + 1 < l.length) (hb : l[2 * g]? = some b) (he : l[2 * g + 1]? = some e) (hx : x.cps.size ≤ 64)
    (hn : b < 0 ∨ e < 0 → Q .none s) (hs : 0 ≤ b → 0 ≤ e → ∀ t' k, Q (.str ⟨x.cps.extract b.toNat e.toNat⟩ t') { s with toks := k }) :
    wpAny (model prog w) A (call (.builtin "re.Match.group") [.ref mt, .int g u]) Q E s := by
  refine wpAny_call_entry slot_group ⟨_, N.get h1, rfl⟩ entry_group ?_ (args_group _ _)
  unfold Builtin.«re.Match.group»
  refine wpAny_bind (wpAny_of_eq (a := ()) rfl ?_)
  unfold reFound
  refine wpAny_bind (wpAny_bind (wpAny_fieldsOf (N.get h1) rfl ?_))
  refine wpAny_bind (wp_rawItems (c := tp) (N.get h2) rfl ?_)
  refine wpAny_pure ?_
  dsimp only
  have es : Array.map reRawOf (List.map rawInt l).toArray = l.toArray := by
    rw [List.map_toArray, List.map_map]
    congr 1
    exact List.map_id' l
  rw [es]
  have b1 : l.toArray.getD (2 * g) (-1) = b := by rw [Array.getD_eq_getD_getElem?, List.getElem?_toArray, hb]; rfl
  have b2 : l.toArray.getD (2 * g + 1) (-1) = e := by rw [Array.getD_eq_getD_getElem?, List.getElem?_toArray, he]; rfl
  refine wpAny_bind (m := reGroupNumber _ _) (Q := _) ?_
  show wpAny _ _ (if (decide ((g : Int) < 0) || decide (2 * (g : Int) ≥ (l.toArray.size : Int))) = true then _ else _) _ _ _
  rw [if_neg (by rw [List.size_toArray, Bool.or_eq_true, decide_eq_true_eq, decide_eq_true_eq]; omega)]
  refine wpAny_pure ?_
  refine wpAny_bind ?_
  unfold reGroupText
  rw [Int.toNat_natCast]
  dsimp only
  rw [b1, b2]
  by_cases hc : b < 0 ∨ e < 0
  · rw [if_pos (by rw [Bool.or_eq_true, decide_eq_true_eq, decide_eq_true_eq]; exact hc)]
    exact wpAny_pure (wpAny_pure ⟨_, rfl, hn hc⟩)
  · rw [if_neg (by rw [Bool.or_eq_true, decide_eq_true_eq, decide_eq_true_eq]; exact hc)]
    refine wpAny_bind (wpAny_of_eq (a := (x.cps, 0)) rfl ?_)
    dsimp only
    unfold reSlice
    rw [if_pos (by decide)]
    refine wpAny_mkStr (wpAny_pure ⟨_, rfl, hs (by omega) (by omega) _ _⟩) ?_
    show (x.cps.extract b.toNat e.toNat).size ≤ sizeLine
    rw [Array.size_extract]
    have := hx
    exact Nat.le_trans (Nat.le_trans (Nat.sub_le _ _) (Nat.min_le_right _ _)) (Nat.le_trans hx (by decide))
theorem truthy_match {mt tp a : Addr} {x : Str} {t : Tok} {pos lim : Nat} {li : Int} {Q : Bool → Shared → Prop} (N : News h₀ L s.heap news) (h1 : (mt, matchObj x t a pos lim li tp) ∈ news) (h : Q true s) : wpAny (model prog w) A (truthy (.ref mt)) Q E s := by
  have hT : s.TypeIs (.ref mt) "re.Match" := ⟨_, N.get h1, rfl⟩
  unfold truthy
  refine wpAny_bind ?_
  unfold callSpecial?
  refine wpAny_bind (wpAny_specialOf hT rm_no_bool ?_)
  refine wpAny_pure ?_
  refine wpAny_bind (wpAny_specialOf hT rm_no_len ?_)
  exact wpAny_pure h
end
end
section
open PySem PySem.W PyProof.Rows PySem.Calls PySem.Spec
open PySem.Builtin PySem.Builtin.Re
theorem words_Re2 : True := by
  w_top off
  k_with_none
  k_with "mine room" => ((simp only [depth_under_make, depth_under_kw, depth_in1, depth_deeper, depth_caller, recursionLimit] at *; (try dsimp only [ktrTop] at *); omega))
  k_with "mine enter" => ((refine wpAny_call ?_; first
  | (refine' code_def ?y2k1 ?y2k2 ?y2k3 ?y2k4 ?y2k5 ?y2kA ?y2kF ?y2kK ?y2k6 ?y2k7 ?y2k8 ?y2k9 ?y2kB ?_ ?y2c2 ?y2c3 ?y2c4 ?y2c5; (case y2kA => exact rfl); (case y2kF => exact rfl); (case y2kK => first | exact rfl | assumption); (case y2k1 => k_asm); (case y2k2 => k_asm); (case y2k3 => k_asm); (case y2k4 => k_asm); (case y2k5 => k_asm); (case y2k6 => k_is); (case y2k7 => k_is); (case y2k8 => walk_at "mine room"); (case y2k9 => first | exact BindsTo.of_eq rfl | exact binds_K (by k_in) rfl (by k_is) rfl rfl rfl); (case y2c5 => decide); (case y2kB => exact locs rfl); (case y2c2 => exact rfl); (case y2c3 => exact rfl); (case y2c4 => exact rfl); k_whole; intro w9g' w9L' w9h' w9FG' w9F' w9N' w9B' w9X' w9T'; (try dsimp only); (try k_lift w9B'); (try k_fold))
  | (refine' code_defC ?y2k1 ?y2k2 ?y2k3 ?y2k4 ?y2k5 ?y2kA ?y2kF ?y2kK ?y2k6 ?y2k7 ?y2k8 ?y2k9 ?y2kB ?y2kD ?_ ?y2c2 ?y2c3 ?y2c4; (case y2kA => exact rfl); (case y2kF => exact rfl); (case y2kK => first | exact rfl | assumption); (case y2k1 => k_asm); (case y2k2 => k_asm); (case y2k3 => k_asm); (case y2k4 => k_asm); (case y2k5 => k_asm); (case y2k6 => k_is); (case y2k7 => k_is); (case y2k8 => walk_at "mine room"); (case y2k9 => first | exact BindsTo.of_eq rfl | exact binds_K (by k_in) rfl (by k_is) rfl rfl rfl); (case y2kB => exact rfl); (case y2kD => decide +kernel); (case y2c2 => exact rfl); (case y2c3 => exact rfl); (case y2c4 => exact rfl); k_whole; intro w9g' w9L' w9h' w9tk' w9cells' w9FG' w9F' w9N' w9Y' w9B' w9X' w9T' w9l1; (try k_lt w9l1); k_cells w9Y'; (try simp only [List.cons_append, List.nil_append] at w9N'); (try dsimp only); (try k_lift w9B'); (try k_fold))))
  k_with "call ref" => ((k_here; k_dflt (walk_at "mine enter")))
  k_with "execs cons" => ((k_here; (try k_gentoks); (try dsimp only); (with_reducible refine wpAny_execs_cons ?_); (try dsimp only); k_fold))
  k_with "mine bound" => (first | omega | exact Int.fmod_nonneg_of_pos _ (by decide) | exact Int.fmod_lt_of_pos _ (by decide))
  k_with "mine short" => (first | exact Nat.le_of_ble_eq_true rfl | ((try simp only [PySem.Str.length_append]); (try kopn_lits); omega))
  k_with "mine open" => ((fail_if_success (with_reducible show wpAny _ _ (subscriptTail _ (Expr.Constant _ _ _) _ _) _ _ _)))
  k_with "subscriptTail" => ((k_here; (with_reducible show wpAny _ _ (subscriptTail _ _ (Value.ref _) (Value.int _ _)) _ _ _); walk_at "mine open"; k_dflt (first
  | (refine item_pickS4 3 (by k_asm) (List.Mem.head _) (by walk_at "mine bound") (by walk_at "mine bound") (by walk_at "mine short") (by walk_at "mine short") (by walk_at "mine short") (by walk_at "mine short") ?_; intro _ _)
  | (refine item_pickS4 60 (by k_asm) (List.Mem.head _) (by walk_at "mine bound") (by walk_at "mine bound") (by walk_at "mine short") (by walk_at "mine short") (by walk_at "mine short") (by walk_at "mine short") ?_; intro _ _)
  | (refine item_pickS2 (by k_asm) (List.Mem.head _) (by walk_at "mine bound") (by walk_at "mine bound") (by walk_at "mine short") (by walk_at "mine short") ?_; intro _ _)
  | (refine item_pickI2 (by k_asm) (List.Mem.head _) (by walk_at "mine bound") (by walk_at "mine bound") ?_; intro _))))
  k_with "mine mem" => (first | exact List.Mem.head _ | (refine List.Mem.tail _ ?_; walk_at "mine mem"))
  k_with "pyIter ref" => (((with_reducible show wpAny _ _ (pyIter (Value.ref _)) (fun it s₂ => LoopAtV _ _ _ _ _ _ _ _ _ it s₂) _ _); with_unfolding_all refine iter_listUnr (by rfl) (by k_asm) (by k_asm) (by walk_at "mine mem") (by rfl) (by rfl) ?_; intro w9i' w9l1))
  k_with "UnrEnd" => ((refine unrEnd_of (by k_asm) (by k_asm) (by assumption) ⟨by walk_at "mine mem", ?_⟩))
  k_with "pyIter ref" => (((with_reducible show wpAny _ _ (pyIter (Value.ref _)) (fun it s₂ => TurnsAt _ _ _ _ _ _ _ _ _ it s₂) _ _); with_unfolding_all refine iter_listTurns (by rfl) (by k_asm) (by k_asm) (by walk_at "mine mem") (by rfl) (by rfl) ?_; intro w9i' w9l1))
  k_with "UnrEndW" => ((refine unrEndW_of (by k_asm) (by k_asm) (by assumption) ⟨⟨by walk_at "mine mem", trivial⟩, ?_⟩))
  k_with "mine sub" => ((intro w9p w9hp; first | exact w9hp | (simp only [List.mem_cons, List.mem_append] at w9hp ⊢; first | (simp only [w9hp, true_or, or_true]; done) | (rcases w9hp with w9hp | w9hp <;> simp only [w9hp, true_or, or_true] <;> done))))
  k_with "mine jstep" => ((
  rw [List.forIn_cons]
  refine wpAny_bind ?_
  refine wpAny_bind (wpAny_seqItems (by assumption) (by assumption) ?_)
  dsimp only
  refine wp_ifno rfl ?_
  refine wpAny_bind (m := holding _ _) (wpAny_holding (wpAny_of_eq own_quiet ?_))
  dsimp only
  refine wpAny_bind (wpAny_seqItems (by assumption) (by assumption) ?_)
  dsimp only
  refine wp_ifno rfl ?_
  refine wpAny_pure ?_
  dsimp only))
  trivial
theorem slot_bcount : Slot "bytes" "count" "bytes.count" :=
  .of (owner := "bytes") (n := "count") (by rw [typeLookup_type, builtinLookup_eq_fast]; kernel_rfl) (by decide +kernel) (by decide +kernel) (by decide +kernel)
    (by first | exact .inl (by decide +kernel) | exact .inr (by decide +kernel)) (by rw [isSubtype_type]; kernel_rfl)
theorem entry_bcount : entryFor table "bytes.count" = some Builtin.«bytes.count» := entryFor_of_tree (by kernel_rfl)
theorem args_bcount (a b : Value) : argsOk "bytes.count" ⟨[a, b], []⟩ := by unfold argsOk; kernel_rfl
theorem slot_bjoin : Slot "bytes" "join" "bytes.join" :=
  .of (owner := "bytes") (n := "join") (by rw [typeLookup_type, builtinLookup_eq_fast]; kernel_rfl) (by decide +kernel) (by decide +kernel) (by decide +kernel)
    (by first | exact .inl (by decide +kernel) | exact .inr (by decide +kernel)) (by rw [isSubtype_type]; kernel_rfl)
theorem entry_bjoin : entryFor table "bytes.join" = some Builtin.«bytes.join» := entryFor_of_tree (by kernel_rfl)
theorem args_bjoin (a b : Value) : argsOk "bytes.join" ⟨[a, b], []⟩ := by unfold argsOk; kernel_rfl
noncomputable def cntB (b c : Array UInt8) : Nat := match (if (Bytes.window b.size none none).2 - (Bytes.window b.size none none).1 < c.size then none else some ((Bytes.window b.size none none).1.toNat, (Bytes.window b.size none none).2.toNat)) with
  | none => 0
  | some (lo, hi) => if c.isEmpty then hi - lo + 1 else (Bytes.occurrences b c lo hi).length
section
variable {prog : Program} {w : World} {A : Around} {E : Value → Shared → Prop} {s : Shared}
theorem count_bytes {b c : Array UInt8} {t u : Tok} {Q : Value → Shared → Prop} (h : ∀ t' k, Q (.int (cntB b c) t') { s with toks := k }) : wpAny (model prog w) A (call (.builtin "bytes.count") [.bytes b t, .bytes c u]) Q E s := by
  refine wpAny_call_entry slot_bcount rfl entry_bcount ?_ (args_bcount _ _)
  unfold Builtin.«bytes.count» Bytes.countM Bytes.searchArgs
  refine wpAny_bind (wpAny_bind (wpAny_of_eq (a := (.bytes b t, [.bytes c u])) rfl ?_))
  refine wpAny_bind (wpAny_pure ?_)
  refine wpAny_bind (wpAny_pure ?_)
  refine wpAny_bind (m := Bytes.buffer? _ _) (wpAny_of_eq KBy.buffer_eq ?_)
  dsimp only
  refine wpAny_bind (wpAny_pure ?_)
  refine wpAny_bind (wpAny_of_eq (a := b) rfl ?_)
  refine wpAny_pure ?_
  unfold cntB at h
  revert h
  generalize (if (Bytes.window b.size none none).2 - (Bytes.window b.size none none).1 < c.size then (none : Option (Nat × Nat)) else some ((Bytes.window b.size none none).1.toNat, (Bytes.window b.size none none).2.toNat)) = r
  intro h
  cases r with
  | none => exact wpAny_bind (wpAny_mkInt (wpAny_pure ⟨_, rfl, h _ _⟩))
  | some p =>
    obtain ⟨lo, hi⟩ := p
    dsimp only at h ⊢
    split
    · rename_i e
      rw [if_pos e] at h
      exact wpAny_bind (wpAny_rule (wpAny_bind (wpAny_mkInt (wpAny_pure ⟨_, rfl, h _ _⟩))))
    · rename_i e
      rw [if_neg e] at h
      exact wpAny_bind (wpAny_mkInt (wpAny_pure ⟨_, rfl, h _ _⟩))
theorem buffer_any {b : Array UInt8} {t : Tok} {id : String} {full : Bool} : Bytes.buffer? id (.bytes b t) full = pure (some b) := by
  unfold Bytes.buffer?
  rw [KBy.special_eq KBy.look_buffer, KBy.own_buffer, KBy.own_release]
  kernel_rfl
theorem own_buf {b : Array UInt8} {t : Tok} {id : String} : Bytes.takeBuffer? id (.bytes b t) 0 = pure (some (b, none)) := by
  unfold Bytes.takeBuffer?
  rw [KBy.special_eq KBy.look_buffer, KBy.own_buffer]
  simp only [buffer_any]
  kernel_rfl
theorem own_quiet {b : Array UInt8} {t : Tok} {id : String} : Bytes.takeBufferQuiet? id (.bytes b t) 0 = pure (some (b, none)) := by
  unfold Bytes.takeBufferQuiet?
  rw [own_buf]
  rfl
/-- bytes.join of one item -/
theorem join_one {l : Addr} {o : Obj} {n : Nat} {b e : Array UInt8} {t u : Tok} {Q : Value → Shared → Prop} (ho : s.heap.get? l = some o) (hc : o.cls = .type "list") (hd : o.data = .seq #[.bytes b t] n) (h : Q (.bytes b t) s) :
    wpAny (model prog w) A (call (.builtin "bytes.join") [.bytes e u, .ref l]) Q E s := by
  have hT : s.TypeIs (.ref l) "list" := ⟨o, ho, hc⟩
  refine wpAny_call_entry slot_bjoin rfl entry_bjoin ?_ (args_bjoin _ _)
  unfold Builtin.«bytes.join» Bytes.joinM
  refine wpAny_bind (wpAny_of_eq (a := (.bytes e u, .ref l)) rfl ?_)
  dsimp only
  refine wpAny_bind (m := Bytes.joinItems (.ref l)) ?_
  unfold Bytes.joinItems
  refine wpAny_bind (wpAny_typeOf hT ?_)
  refine wpAny_pure ?_
  refine wpAny_bind (wpAny_seqItems ho hd ?_)
  dsimp only
  rw [if_pos (by decide)]
  refine wpAny_bind (wpAny_of_eq (a := .type "bytes") rfl ?_)
  rw [if_pos (by decide)]
  exact wpAny_bind (wpAny_rule (wpAny_pure ⟨_, rfl, h⟩))
theorem letGo_all {taken : List (Value × Option Value)} {keep : List Value} {A : Around} {M : Model} {Q : Unit → Shared → Prop} (hn : ∀ p ∈ taken, p.2 = none) (h : Q () s) : wpAny M A (Bytes.joinLetGo taken keep) Q E s := by
  induction taken with
  | nil => exact wpAny_pure h
  | cons p r ih =>
    obtain ⟨x, w⟩ := p
    have : w = none := hn (x, w) (.head _)
    subst this
    unfold Bytes.joinLetGo
    dsimp only
    refine wpAny_bind ?_
    refine wpAny_letGo ?_
    exact ih fun p hp => hn p (.tail _ hp)
theorem wp_ifno {α : Type} {M : Model} {A : Around} {b : Bool} {u v : Sem α} {Q : α → Shared → Prop} (hb : b = false) (h : wpAny M A v Q E s) : wpAny M A (if b = true then u else v) Q E s := by rw [hb, if_neg Bool.false_ne_true]; exact h
/-- bytes.join of two items -/
theorem join_two {l : Addr} {o : Obj} {n : Nat} {b0 b1 : Array UInt8} {t0 t1 u : Tok} {Q : Value → Shared → Prop} (ho : s.heap.get? l = some o) (hc : o.cls = .type "list") (hd : o.data = .seq #[.bytes b0 t0, .bytes b1 t1] n) (h0 : b0.size ≤ 64) (h1 : b1.size ≤ 64)
    (h : ∀ t k, Q (.bytes (b0 ++ b1) t) { s with toks := k }) :
    wpAny (model prog w) A (call (.builtin "bytes.join") [.bytes #[] u, .ref l]) Q E s := by
  have hT : s.TypeIs (.ref l) "list" := ⟨o, ho, hc⟩
  refine wpAny_call_entry slot_bjoin rfl entry_bjoin ?_ (args_bjoin _ _)
  unfold Builtin.«bytes.join» Bytes.joinM
  refine wpAny_bind (wpAny_of_eq (a := (.bytes #[] u, .ref l)) rfl ?_)
  dsimp only
  refine wpAny_bind (m := Bytes.joinItems (.ref l)) ?_
  unfold Bytes.joinItems
  refine wpAny_bind (wpAny_typeOf hT ?_)
  refine wpAny_pure ?_
  refine wpAny_bind (wpAny_seqItems ho hd ?_)
  dsimp only
  rw [if_pos (by decide)]
  refine wpAny_bind ?_
  rw [Std.Legacy.Range.forIn_eq_forIn_range']
  rw [show List.range' [:#[Value.bytes b0 t0, Value.bytes b1 t1].size].start [:#[Value.bytes b0 t0, Value.bytes b1 t1].size].size [:#[Value.bytes b0 t0, Value.bytes b1 t1].size].step = [0, 1] from by simp [Std.Legacy.Range.size, List.range']]
  walk_at "mine jstep"
  walk_at "mine jstep"
  rw [List.forIn_nil]
  refine wpAny_pure ?_
  refine wpAny_bind (wpAny_of_eq (a := #[]) rfl ?_)
  refine wp_ifno (KBy.tooLong_not ?_) ?_
  · show 0 * 1 + b0.size + b1.size ≤ 16777216
    omega
  · refine wpAny_bind (wpAny_mkBytes ?_ ?_)
    · refine wpAny_bind (wpAny_holding (wpAny_point ?_))
      refine wpAny_bind (letGo_all ?_ (wpAny_pure ⟨_, rfl, ?_⟩))
      · intro p hp
        simp at hp
        rcases hp with rfl | rfl <;> rfl
      · show Q (.bytes (Bytes.joined #[] [b0, b1]) s.toks) _
        rw [show Bytes.joined #[] [b0, b1] = b0 ++ b1 from by simp [Bytes.joined]]
        exact h _ _
    · show (Bytes.joined #[] [b0, b1]).size ≤ sizeLine
      rw [show Bytes.joined #[] [b0, b1] = b0 ++ b1 from by simp [Bytes.joined], Array.size_append]
      exact Nat.le_trans (Nat.add_le_add h0 h1) (by decide)
/-- bytes.join of three items -/
theorem join_three {l : Addr} {o : Obj} {n : Nat} {b0 b1 b2 : Array UInt8} {t0 t1 t2 u : Tok} {Q : Value → Shared → Prop} (ho : s.heap.get? l = some o) (hc : o.cls = .type "list") (hd : o.data = .seq #[.bytes b0 t0, .bytes b1 t1, .bytes b2 t2] n) (h0 : b0.size ≤ 64) (h1 : b1.size ≤ 64) (h2 : b2.size ≤ 64)
    (h : ∀ t k, Q (.bytes (b0 ++ b1 ++ b2) t) { s with toks := k }) :
    wpAny (model prog w) A (call (.builtin "bytes.join") [.bytes #[] u, .ref l]) Q E s := by
  have hT : s.TypeIs (.ref l) "list" := ⟨o, ho, hc⟩
  refine wpAny_call_entry slot_bjoin rfl entry_bjoin ?_ (args_bjoin _ _)
  unfold Builtin.«bytes.join» Bytes.joinM
  refine wpAny_bind (wpAny_of_eq (a := (.bytes #[] u, .ref l)) rfl ?_)
  dsimp only
  refine wpAny_bind (m := Bytes.joinItems (.ref l)) ?_
  unfold Bytes.joinItems
  refine wpAny_bind (wpAny_typeOf hT ?_)
  refine wpAny_pure ?_
  refine wpAny_bind (wpAny_seqItems ho hd ?_)
  dsimp only
  rw [if_pos (by decide)]
  refine wpAny_bind ?_
  rw [Std.Legacy.Range.forIn_eq_forIn_range']
  rw [show List.range' [:#[Value.bytes b0 t0, Value.bytes b1 t1, Value.bytes b2 t2].size].start [:#[Value.bytes b0 t0, Value.bytes b1 t1, Value.bytes b2 t2].size].size [:#[Value.bytes b0 t0, Value.bytes b1 t1, Value.bytes b2 t2].size].step = [0, 1, 2] from by simp [Std.Legacy.Range.size, List.range']]
  walk_at "mine jstep"
  walk_at "mine jstep"
  walk_at "mine jstep"
  rw [List.forIn_nil]
  refine wpAny_pure ?_
  refine wpAny_bind (wpAny_of_eq (a := #[]) rfl ?_)
  refine wp_ifno (KBy.tooLong_not ?_) ?_
  · show 0 * 2 + b0.size + b1.size + b2.size ≤ 16777216
    omega
  · refine wpAny_bind (wpAny_mkBytes ?_ ?_)
    · refine wpAny_bind (wpAny_holding (wpAny_point ?_))
      refine wpAny_bind (letGo_all ?_ (wpAny_pure ⟨_, rfl, ?_⟩))
      · intro p hp
        simp at hp
        rcases hp with rfl | rfl | rfl <;> rfl
      · show Q (.bytes (Bytes.joined #[] [b0, b1, b2]) s.toks) _
        rw [show Bytes.joined #[] [b0, b1, b2] = b0 ++ b1 ++ b2 from by simp [Bytes.joined]]
        exact h _ _
    · show (Bytes.joined #[] [b0, b1, b2]).size ≤ sizeLine
      rw [show Bytes.joined #[] [b0, b1, b2] = b0 ++ b1 ++ b2 from by simp [Bytes.joined], Array.size_append, Array.size_append]
      exact Nat.le_trans (Nat.add_le_add (Nat.add_le_add h0 h1) h2) (by decide)
end
end
section
open PySem PySem.W PyProof.Rows PySem.Calls PySem.Spec
open PySem.Builtin PySem.Builtin.Re
noncomputable def nextF (code x : Array Nat) (start : Nat) (must : Bool) : Option (Option (Nat × Nat)) := match driveN 100 (Sre.forSearch code x 0 start x.size must) with
  | none => none
  | some m => match m.outcome with
    | some .matched => some (some (m.start, m.handed))
    | some .failed => some none
    | _ => none
structure St (g : Heap) (l : Addr) (h : Heap) (its : Array Value) : Prop where
  keep : ∀ b o, g.get? b = some o → h.get? b = some o
  fresh : g.get? l = none
  list : ∃ k, h.get? l = some (listOf its k)
theorem St.push {g h : Heap} {l : Addr} {its : Array Value} (S : St g l h its) (v : Value) : St g l (h.update l (Obj.mapSeq (·.push v))) (its.push v) := by
  obtain ⟨k, hk⟩ := S.list
  have hs : Heap.SameBut l h (h.update l (Obj.mapSeq (·.push v))) := Heap.SameBut.update ..
  refine ⟨fun b o e => ?_, S.fresh, ?_⟩
  · have : b ≠ l := fun z => by rw [z, S.fresh] at e; cases e
    exact (hs.2 b this).trans (S.keep b o e)
  · exact ⟨_, Heap.get?_update_self _ hk rfl⟩
section
variable {prog : Program} {w : World} {A : Around} {E : Value → Shared → Prop} {s : Shared} {g : Heap}
theorem wp_push {l : Addr} {its : Array Value} {v : Value} {Q : Unit → Shared → Prop} (S : St g l s.heap its) (hz : its.size ≤ 10) (h : ∀ h', St g l h' (its.push v) → Q () { s with heap := h' }) : wpAny (model prog w) A (updateSeq l (·.push v)) Q E s := by
  obtain ⟨k, hk⟩ := S.list
  exact wpAny_updateSeq hk rfl (h _ (S.push v)) (Nat.le_trans hz (by decide)) (by rw [Array.size_push]; exact Nat.le_trans (Nat.succ_le_succ hz) (by decide))
theorem wp_whole {a c : Addr} {o co : Obj} {vs code : Array Value} {n : Nat} {b : Array UInt8} {t : Tok} {Q : ReTarget → Shared → Prop} (ho : s.heap.get? a = some o) (hd : o.data = .fields vs) (h5 : vs.getD 5 .none = .ref c) (h6 : reRawNat (vs.getD 6 .none) = 1) (h2 : reRawNat (vs.getD 2 .none) = 0)
    (hc : s.heap.get? c = some co) (hcd : co.data = .seq code n) {cN : Array Nat} (hcN : (code.map reRawOf).map (·.toNat) = cN)
    (h : Q { pattern := .ref a, string := .bytes b t, code := cN, text := b.map (·.toNat), kind := 1, groups := 0, pos := 0, lim := (b.map (·.toNat)).size } s) :
    wpAny (model prog w) A (reWholeTarget (.ref a) (.bytes b t)) Q E s := by
  subst hcN
  unfold reWholeTarget
  refine wpAny_bind (wpAny_fieldsOf ho hd ?_)
  refine wpAny_bind (m := reTextOf (.bytes b t)) ?_
  unfold reTextOf
  refine wpAny_bind (wpAny_pure ?_)
  refine wpAny_bind (wpAny_of_eq KBy.quiet_eq ?_)
  refine wpAny_pure ?_
  dsimp only
  rw [h6, h5, h2, if_neg (by decide), if_neg (by decide)]
  refine wpAny_bind (m := reNoCollectionInside (.bytes b t) 1) ?_
  unfold reNoCollectionInside
  rw [if_pos (by decide)]
  refine wpAny_bind (wpAny_of_eq KBy.isInstance_eq ?_)
  rw [if_neg (by decide)]
  refine wpAny_pure ?_
  exact wpAny_bind (wp_rawItems hc hcd (wpAny_pure h))
theorem wp_next {t : ReTarget} {start : Nat} {must : Bool} {r : Option (Nat × Nat)} {Q : Option Sre.M → Shared → Prop} (hg : t.groups = 0) (hl : t.lim = t.text.size) (hn : nextF t.code t.text start must = some r)
    (h : match r with | none => Q none s | some (a, b) => ∀ m, m.start = a → m.handed = b → Q (some m) s) : wpAny (model prog w) A (reNextFound t start must) Q E s := by
  unfold nextF at hn
  split at hn
  · cases hn
  · rename_i m e
    unfold reNextFound
    rw [hg, hl]
    split at hn
    · rename_i e1
      cases hn
      exact wp_end (n := 100) (by decide) e (.inl ⟨e1, h m rfl rfl⟩)
    · rename_i e1
      cases hn
      exact wp_end (n := 100) (by decide) e (.inr ⟨e1, h⟩)
    · cases hn
noncomputable abbrev qCode : Array Nat := #[14, 8, 1, 2, 4294967295, 1, 1, 34, 0, 16, 34, 28, 22, 0, 4294967295, 7, 11, 13, 7, 21, 16, 34, 16, 92, 0, 15, 8, 6, 16, 92, 2, 15, 2, 0, 1, 16, 34, 1]
structure PatB (a : Addr) (g : Heap) : Prop where
  pat : ∃ o vs c, g.get? a = some o ∧ o.data = .fields vs ∧ o.cls = .type "re.Pattern" ∧ vs.getD 5 .none = .ref c ∧ reRawNat (vs.getD 6 .none) = 1 ∧ reRawNat (vs.getD 2 .none) = 0 ∧ ∃ co code n, g.get? c = some co ∧ co.data = .seq code n ∧ (code.map reRawOf).map (·.toNat) = qCode
theorem PatB.whole {a : Addr} (P : PatB a g) (k : ∀ b o, g.get? b = some o → s.heap.get? b = some o) {b : Array UInt8} {t : Tok} {Q : ReTarget → Shared → Prop}
    (h : Q { pattern := .ref a, string := .bytes b t, code := qCode, text := b.map (·.toNat), kind := 1, groups := 0, pos := 0, lim := (b.map (·.toNat)).size } s) :
    wpAny (model prog w) A (reWholeTarget (.ref a) (.bytes b t)) Q E s := by
  obtain ⟨o, vs, c, ho, hd, _, h5, h6, h2, co, code, n, hc, hcd, hcN⟩ := P.pat
  exact wp_whole (k _ _ ho) hd h5 h6 h2 (k _ _ hc) hcd hcN h
noncomputable abbrev loopArgs (a : Addr) (b : Array UInt8) (t u : Tok) (n done start : Nat) (must : Bool) (l : Addr) : Args :=
  ⟨[.ref a, .bytes b t, .bytes #[] u, rawInt 0, rawInt 0, rawInt n, rawInt done, rawInt start, .bool must, .ref l, .bool false], []⟩
noncomputable abbrev sl (b : Array UInt8) (i j : Nat) : Array UInt8 := ((b.map (·.toNat)).extract i j).map (·.toUInt8)
theorem wp_lit {u : Tok} {Q : Unit → Shared → Prop} (h : Q () s) : wpAny (model prog w) A (reLiteralCannotBeTurned (.bytes #[] u)) Q E s := by
  unfold reLiteralCannotBeTurned
  refine wpAny_bind (wpAny_of_eq (a := none) rfl ?_)
  rw [if_pos (by decide)]
  refine wpAny_bind (wpAny_of_eq KBy.isInstance_eq ?_)
  rw [if_neg (by decide)]
  exact wpAny_pure h
theorem wp_ifyes {α : Type} {M : Model} {A : Around} {b : Bool} {u v : Sem α} {Q : α → Shared → Prop} (hb : b = true) (h : wpAny M A u Q E s) : wpAny M A (if b = true then u else v) Q E s := by rw [hb, if_pos rfl]; exact h
theorem sl_size {b : Array UInt8} {i j : Nat} (hb : b.size ≤ 64) : (sl b i j).size ≤ 64 := by
  show (((b.map (·.toNat)).extract i j).map (·.toUInt8)).size ≤ 64
  rw [Array.size_map, Array.size_extract, Array.size_map]
  exact Nat.le_trans (Nat.sub_le _ _) (Nat.le_trans (Nat.min_le_right _ _) hb)
theorem wp_slice {b : Array UInt8} {i j : Nat} {Q : Value → Shared → Prop} (hb : b.size ≤ 64) (h : ∀ x k, Q (.bytes (sl b i j) x) { s with toks := k }) : wpAny (model prog w) A (reSlice (b.map (·.toNat)) 1 i j) Q E s := by
  unfold reSlice
  refine wp_ifno rfl ?_
  exact wpAny_mkBytes (h _ _) (Nat.le_trans (sl_size hb) (by decide))
theorem loop_hit {a l : Addr} {b : Array UInt8} {t u : Tok} {n done start ms mh : Nat} {must : Bool} {its : Array Value} {R : Result → Shared → Prop} (P : PatB a g) (S : St g l s.heap its) (hz : its.size ≤ 6) (hb : b.size ≤ 64)
    (hn : nextF qCode (b.map (·.toNat)) start must = some (some (ms, mh)))
    (h : ∀ h' k x, St g l h' ((if done < ms then its.push (.bytes (sl b done ms) x) else its).push (.bytes #[] u)) →
      codeAny (model prog w) A (.builtin "re.Pattern.sub.loop" (loopArgs a b t u (n + 1) mh mh (mh == ms) l)) R { s with heap := h', toks := k }) :
    codeAny (model prog w) A (.builtin "re.Pattern.sub.loop" (loopArgs a b t u n done start must l)) R s := by
  refine codeAny_builtin entry_loop ?_
  unfold Builtin.«re.Pattern.sub.loop»
  dsimp only [loopArgs, rawInt]
  refine wpAny_bind (P.whole S.keep ?_)
  refine wp_ifyes rfl ?_
  refine wpAny_bind (wp_lit ?_)
  dsimp only
  refine wpAny_bind (wp_ifno rfl (wp_next rfl rfl hn ?_))
  intro m e1 e2
  subst e1 e2
  dsimp only
  by_cases hd : done < m.start
  · rw [if_pos (by rw [Int.toNat_natCast]; exact hd)]
    rw [Int.toNat_natCast]
    refine wpAny_bind (wp_slice hb fun x k => ?_)
    refine wpAny_bind (wp_push (s := { s with toks := k }) S (by omega) fun h1 S1 => ?_)
    refine wp_ifyes rfl ?_
    refine wpAny_bind (wpAny_pure ?_)
    refine wp_ifyes rfl ?_
    refine wpAny_bind (wp_push (s := { s with heap := h1, toks := k }) S1 (by rw [Array.size_push]; omega) fun h2 S2 => ?_)
    refine wpAny_pure ⟨plainId_quiet plain_loop _, ?_⟩
    exact h h2 k x (by rw [if_pos hd]; exact S2)
  · rw [if_neg (by rw [Int.toNat_natCast]; exact hd)]
    refine wp_ifyes rfl ?_
    refine wpAny_bind (wpAny_pure ?_)
    refine wp_ifyes rfl ?_
    refine wpAny_bind (wp_push S (by omega) fun h2 S2 => ?_)
    refine wpAny_pure ⟨plainId_quiet plain_loop _, ?_⟩
    exact h h2 s.toks 0 (by rw [if_neg hd]; exact S2)
theorem loop_fin {a l : Addr} {b : Array UInt8} {t u : Tok} {n done start : Nat} {must : Bool} {its : Array Value} {R : Result → Shared → Prop} (P : PatB a g) (S : St g l s.heap its) (hz : its.size ≤ 6) (hb : b.size ≤ 64)
    (hn : nextF qCode (b.map (·.toNat)) start must = some none) (hne : (if done < b.size then 1 else its.size) ≠ 0)
    (h : ∀ (A' : Around) h' k x y, St g l h' (if done < b.size then its.push (.bytes (sl b done b.size) x) else its) →
      wpAny (model prog w) A' (call (.builtin "bytes.join") [.bytes #[] y, .ref l]) (fun v s' => R (.ok (.ret v)) s') (fun e s' => R (.error e) s') { s with heap := h', toks := k }) :
    codeAny (model prog w) A (.builtin "re.Pattern.sub.loop" (loopArgs a b t u n done start must l)) R s := by
  refine codeAny_builtin entry_loop ?_
  unfold Builtin.«re.Pattern.sub.loop»
  dsimp only [loopArgs, rawInt]
  refine wpAny_bind (P.whole S.keep ?_)
  refine wp_ifyes rfl ?_
  refine wpAny_bind (wp_lit ?_)
  dsimp only
  refine wpAny_bind (wp_ifno rfl (wp_next rfl rfl hn ?_))
  dsimp only
  rw [Array.size_map, Int.toNat_natCast]
  have e0 : sl b 0 0 = #[] := by simp [sl]
  by_cases hd : done < b.size
  · rw [if_pos hd]
    simp only [if_pos hd] at h
    refine wpAny_bind (wp_slice hb fun x k => ?_)
    refine wpAny_bind (wp_push (s := { s with toks := k }) S (by omega) fun h1 S1 => ?_)
    refine wpAny_bind (wp_slice hb fun y k2 => ?_)
    rw [e0]
    obtain ⟨kk, hk⟩ := S1.list
    refine wpAny_bind (wpAny_seqItems (s := { s with heap := h1, toks := k2 }) hk rfl ?_)
    refine wp_ifno (by simp) ?_
    refine wpAny_bind (wpAny_mono (h _ h1 k2 x y S1) (fun v s' hv => ?_) fun _ _ e => e)
    exact wp_ifno rfl (wpAny_pure hv)
  · rw [if_neg hd]
    rw [if_neg hd] at hne
    simp only [if_neg hd] at h
    refine wpAny_bind (wp_slice hb fun y k2 => ?_)
    rw [e0]
    obtain ⟨kk, hk⟩ := S.list
    refine wpAny_bind (wpAny_seqItems (s := { s with toks := k2 }) hk rfl ?_)
    refine wp_ifno (by simpa using fun e => hne (by rw [e]; rfl)) ?_
    refine wpAny_bind (wpAny_mono (h _ s.heap k2 0 y S) (fun v s' hv => ?_) fun _ _ e => e)
    exact wp_ifno rfl (wpAny_pure hv)
theorem loop_empty {a l : Addr} {b : Array UInt8} {t u : Tok} {n done start : Nat} {must : Bool} {R : Result → Shared → Prop} (P : PatB a g) (S : St g l s.heap #[]) (hb : b.size = 0)
    (hn : nextF qCode (b.map (·.toNat)) start must = some none)
    (h : ∀ k y, R (.ok (.ret (.bytes #[] y))) { s with toks := k }) :
    codeAny (model prog w) A (.builtin "re.Pattern.sub.loop" (loopArgs a b t u n done start must l)) R s := by
  refine codeAny_builtin entry_loop ?_
  unfold Builtin.«re.Pattern.sub.loop»
  dsimp only [loopArgs, rawInt]
  refine wpAny_bind (P.whole S.keep ?_)
  refine wp_ifyes rfl ?_
  refine wpAny_bind (wp_lit ?_)
  dsimp only
  refine wpAny_bind (wp_ifno rfl (wp_next rfl rfl hn ?_))
  dsimp only
  rw [Array.size_map, Int.toNat_natCast, hb, if_neg (Nat.not_lt_zero _)]
  have e0 : sl b 0 0 = #[] := by simp [sl]
  refine wpAny_bind (wp_slice (by omega) fun y k2 => ?_)
  rw [e0]
  obtain ⟨kk, hk⟩ := S.list
  refine wpAny_bind (wpAny_seqItems (s := { s with toks := k2 }) hk rfl ?_)
  refine wp_ifyes rfl ?_
  refine wpAny_bind (wpAny_pure ?_)
  exact wp_ifno rfl (wpAny_pure (h _ _))
theorem rb_no_call : typeLookup (.type "bytes") "__call__" = pure none := by rw [typeLookup_type, builtinLookup_eq_fast]; kernel_rfl
/-- the head of Pattern.sub -/
theorem sub_head {a : Addr} {o : Obj} {b : Array UInt8} {t u : Tok} {Q : Value → Shared → Prop} (P : PatB a s.heap) (hcls : s.heap.get? a = some o ∧ o.cls = .type "re.Pattern")
    (h : ∀ l h', St s.heap l h' #[] → codeAny (model prog w) A (.builtin "re.Pattern.sub.loop" (loopArgs a b t u 0 0 0 false l)) (fun r s' => match r with | .ok (.ret v) => Q v s' | .ok _ => False | .error e => E e s') { s with heap := h' }) :
    wpAny (model prog w) A (call (.builtin "re.Pattern.sub") [.ref a, .bytes #[] u, .bytes b t]) Q E s := by
  refine wpAny_call (codeAny_call_builtin slot_sub.plain entry_sub (slot_sub.check _ _ _ _ _ _ _ _ ⟨o, hcls⟩ (args_sub _ _ _) ?_))
  unfold Builtin.«re.Pattern.sub» reSubstitute
  refine wpAny_bind (wpAny_of_eq (a := [some (.bytes #[] u), some (.bytes b t), none]) rfl ?_)
  dsimp only
  refine wpAny_bind (wpAny_pure ?_)
  refine wpAny_bind (wpAny_of_eq (KBy.special_eq rb_no_call) ?_)
  refine wp_ifno rfl ?_
  refine wpAny_bind (wpAny_of_eq (a := none) rfl ?_)
  dsimp only
  refine wpAny_bind (wpAny_of_eq KBy.quiet_eq ?_)
  dsimp only
  refine wpAny_bind (wpAny_pure ?_)
  refine wp_ifno rfl ?_
  refine wp_ifyes (by simp) ?_
  refine wpAny_bind (wpAny_pure ?_)
  refine wpAny_bind (wpAny_holding (P.whole (fun _ _ e => e) ?_))
  refine wp_ifno rfl ?_
  refine wpAny_bind (wpAny_newObj_type ?_ (Nat.le_of_ble_eq_true rfl))
  refine wpAny_pure ⟨plainId_quiet plain_loop _, h _ _ ⟨fun b o e => Heap.get?_push_of_some _ e, Heap.get?_none_of_le (Nat.le_refl _), ⟨0, Heap.get?_push_size _ rfl⟩⟩⟩
noncomputable def subR (b : Array UInt8) : Option (Array UInt8) := match nextF qCode (b.map (·.toNat)) 0 false with
  | some none => some (if b.size = 0 then #[] else sl b 0 b.size)
  | some (some (ms, mh)) => (match nextF qCode (b.map (·.toNat)) mh (mh == ms) with
    | some none => if mh = b.size then some (if ms = 0 then #[] else sl b 0 ms) else none
    | some (some (ms2, mh2)) => if ms = 0 ∧ mh < ms2 ∧ mh2 = b.size ∧ nextF qCode (b.map (·.toNat)) mh2 (mh2 == ms2) = some none then some (sl b mh ms2) else none
    | none => none)
  | none => none
theorem sub_heap {a : Addr} {o : Obj} {b r : Array UInt8} {t u : Tok} {Q : Value → Shared → Prop} (P : PatB a s.heap) (hcls : s.heap.get? a = some o ∧ o.cls = .type "re.Pattern") (hb : b.size ≤ 64) (hr : subR b = some r)
    (h : ∀ h' k x, (∀ b o, s.heap.get? b = some o → h'.get? b = some o) → Q (.bytes r x) { s with heap := h', toks := k }) :
    wpAny (model prog w) A (call (.builtin "re.Pattern.sub") [.ref a, .bytes #[] u, .bytes b t]) Q E s := by
  refine sub_head P hcls fun l h1 S1 => ?_
  unfold subR at hr
  split at hr
  · rename_i e1
    by_cases h0 : b.size = 0
    · rw [if_pos h0] at hr
      cases hr
      exact loop_empty (s := { s with heap := h1 }) P S1 h0 e1 fun k y => h h1 k y S1.keep
    · rw [if_neg h0] at hr
      cases hr
      refine loop_fin (s := { s with heap := h1 }) P S1 (by decide) hb e1 (by rw [if_pos (Nat.pos_of_ne_zero h0)]; decide) fun A' h2 k x y S2 => ?_
      rw [if_pos (Nat.pos_of_ne_zero h0)] at S2
      obtain ⟨kk, hk⟩ := S2.list
      exact join_one (s := { s with heap := h2, toks := k }) hk rfl rfl (h h2 k x S2.keep)
  · rename_i ms mh e1
    split at hr
    · rename_i e2
      by_cases hm : mh = b.size
      · rw [if_pos hm] at hr
        cases hr
        refine loop_hit (s := { s with heap := h1 }) P S1 (by decide) hb e1 fun h2 k x S2 => ?_
        refine loop_fin (s := { s with heap := h2, toks := k }) P S2 (by split <;> simp) hb e2 (by rw [if_neg (by omega)]; split <;> simp) fun A' h3 k3 x3 y S3 => ?_
        rw [if_neg (by omega)] at S3
        by_cases h0 : ms = 0
        · rw [if_neg (by omega)] at S3
          rw [if_pos h0] at h
          obtain ⟨kk, hk⟩ := S3.list
          exact join_one (s := { s with heap := h3, toks := k3 }) hk rfl rfl (h h3 k3 _ S3.keep)
        · rw [if_pos (by omega)] at S3
          rw [if_neg h0] at h
          obtain ⟨kk, hk⟩ := S3.list
          refine join_two (s := { s with heap := h3, toks := k3 }) hk rfl rfl (sl_size hb) (by decide) fun t' k' => ?_
          rw [Array.append_empty]
          exact h h3 k' t' S3.keep
      · rw [if_neg hm] at hr; cases hr
    · rename_i ms2 mh2 e2
      split at hr
      · rename_i q
        obtain ⟨q1, q2, q3, q4⟩ := q
        cases hr
        subst q1
        refine loop_hit (s := { s with heap := h1 }) P S1 (by decide) hb e1 fun h2 k x S2 => ?_
        rw [if_neg (by omega)] at S2
        refine loop_hit (s := { s with heap := h2, toks := k }) P S2 (by simp) hb e2 fun h3 k3 x3 S3 => ?_
        rw [if_pos q2] at S3
        refine loop_fin (s := { s with heap := h3, toks := k3 }) P S3 (by simp) hb q4 (by rw [if_neg (by omega)]; simp) fun A' h4 k4 x4 y S4 => ?_
        rw [if_neg (by omega)] at S4
        obtain ⟨kk, hk⟩ := S4.list
        refine join_three (s := { s with heap := h4, toks := k4 }) hk rfl rfl (by decide) (sl_size hb) (by decide) fun t' k' => ?_
        rw [Array.append_empty, Array.empty_append]
        exact h h4 k' t' S4.keep
      · cases hr
    · cases hr
  · cases hr
end
end
section
open PySem PySem.W PyProof.Rows PySem.Calls PySem.Spec
open PySem.Builtin PySem.Builtin.Re
theorem words_C3 : True := by
  w_top off
  k_with_none
  k_with "mine room" => ((simp only [depth_under_make, depth_under_kw, depth_in1, depth_deeper, depth_caller, recursionLimit] at *; (try dsimp only [ktrTop] at *); omega))
  k_with "mine enter" => ((refine wpAny_call ?_; first
  | (refine' code_def ?y2k1 ?y2k2 ?y2k3 ?y2k4 ?y2k5 ?y2kA ?y2kF ?y2kK ?y2k6 ?y2k7 ?y2k8 ?y2k9 ?y2kB ?_ ?y2c2 ?y2c3 ?y2c4 ?y2c5; (case y2kA => exact rfl); (case y2kF => exact rfl); (case y2kK => first | exact rfl | assumption); (case y2k1 => k_asm); (case y2k2 => k_asm); (case y2k3 => k_asm); (case y2k4 => k_asm); (case y2k5 => k_asm); (case y2k6 => k_is); (case y2k7 => k_is); (case y2k8 => walk_at "mine room"); (case y2k9 => first | exact BindsTo.of_eq rfl | exact binds_K (by k_in) rfl (by k_is) rfl rfl rfl); (case y2c5 => decide); (case y2kB => exact locs rfl); (case y2c2 => exact rfl); (case y2c3 => exact rfl); (case y2c4 => exact rfl); k_whole; intro w9g' w9L' w9h' w9FG' w9F' w9N' w9B' w9X' w9T'; (try dsimp only); (try k_lift w9B'); (try k_fold))
  | (refine' code_defC ?y2k1 ?y2k2 ?y2k3 ?y2k4 ?y2k5 ?y2kA ?y2kF ?y2kK ?y2k6 ?y2k7 ?y2k8 ?y2k9 ?y2kB ?y2kD ?_ ?y2c2 ?y2c3 ?y2c4; (case y2kA => exact rfl); (case y2kF => exact rfl); (case y2kK => first | exact rfl | assumption); (case y2k1 => k_asm); (case y2k2 => k_asm); (case y2k3 => k_asm); (case y2k4 => k_asm); (case y2k5 => k_asm); (case y2k6 => k_is); (case y2k7 => k_is); (case y2k8 => walk_at "mine room"); (case y2k9 => first | exact BindsTo.of_eq rfl | exact binds_K (by k_in) rfl (by k_is) rfl rfl rfl); (case y2kB => exact rfl); (case y2kD => decide +kernel); (case y2c2 => exact rfl); (case y2c3 => exact rfl); (case y2c4 => exact rfl); k_whole; intro w9g' w9L' w9h' w9tk' w9cells' w9FG' w9F' w9N' w9Y' w9B' w9X' w9T' w9l1; (try k_lt w9l1); k_cells w9Y'; (try simp only [List.cons_append, List.nil_append] at w9N'); (try dsimp only); (try k_lift w9B'); (try k_fold))))
  k_with "call ref" => ((k_here; k_dflt (walk_at "mine enter")))
  k_with "execs cons" => ((k_here; (try k_gentoks); (try dsimp only); (with_reducible refine wpAny_execs_cons ?_); (try dsimp only); k_fold))
  k_with "mine bound" => (first | omega | exact Int.fmod_nonneg_of_pos _ (by decide) | exact Int.fmod_lt_of_pos _ (by decide))
  k_with "mine short" => (first | exact Nat.le_of_ble_eq_true rfl | ((try simp only [PySem.Str.length_append]); (try kopn_lits); omega))
  k_with "mine open" => ((fail_if_success (with_reducible show wpAny _ _ (subscriptTail _ (Expr.Constant _ _ _) _ _) _ _ _)))
  k_with "subscriptTail" => ((k_here; (with_reducible show wpAny _ _ (subscriptTail _ _ (Value.ref _) (Value.int _ _)) _ _ _); walk_at "mine open"; k_dflt (first
  | (refine item_pickS4 3 (by k_asm) (List.Mem.head _) (by walk_at "mine bound") (by walk_at "mine bound") (by walk_at "mine short") (by walk_at "mine short") (by walk_at "mine short") (by walk_at "mine short") ?_; intro _ _)
  | (refine item_pickS4 60 (by k_asm) (List.Mem.head _) (by walk_at "mine bound") (by walk_at "mine bound") (by walk_at "mine short") (by walk_at "mine short") (by walk_at "mine short") (by walk_at "mine short") ?_; intro _ _)
  | (refine item_pickS2 (by k_asm) (List.Mem.head _) (by walk_at "mine bound") (by walk_at "mine bound") (by walk_at "mine short") (by walk_at "mine short") ?_; intro _ _)
  | (refine item_pickI2 (by k_asm) (List.Mem.head _) (by walk_at "mine bound") (by walk_at "mine bound") ?_; intro _))))
  k_with "mine mem" => (first | exact List.Mem.head _ | (refine List.Mem.tail _ ?_; walk_at "mine mem"))
  k_with "pyIter ref" => (((with_reducible show wpAny _ _ (pyIter (Value.ref _)) (fun it s₂ => LoopAtV _ _ _ _ _ _ _ _ _ it s₂) _ _); with_unfolding_all refine iter_listUnr (by rfl) (by k_asm) (by k_asm) (by walk_at "mine mem") (by rfl) (by rfl) ?_; intro w9i' w9l1))
  k_with "UnrEnd" => ((refine unrEnd_of (by k_asm) (by k_asm) (by assumption) ⟨by walk_at "mine mem", ?_⟩))
  k_with "pyIter ref" => (((with_reducible show wpAny _ _ (pyIter (Value.ref _)) (fun it s₂ => TurnsAt _ _ _ _ _ _ _ _ _ it s₂) _ _); with_unfolding_all refine iter_listTurns (by rfl) (by k_asm) (by k_asm) (by walk_at "mine mem") (by rfl) (by rfl) ?_; intro w9i' w9l1))
  k_with "UnrEndW" => ((refine unrEndW_of (by k_asm) (by k_asm) (by assumption) ⟨⟨by walk_at "mine mem", trivial⟩, ?_⟩))
  k_with "mine sub" => ((intro w9p w9hp; first | exact w9hp | (simp only [List.mem_cons, List.mem_append] at w9hp ⊢; first | (simp only [w9hp, true_or, or_true]; done) | (rcases w9hp with w9hp | w9hp <;> simp only [w9hp, true_or, or_true] <;> done))))
  k_with "getMethod ref" => ((k_here; first
  | ((with_reducible show wpAny _ _ (getMethod (Value.ref 101) (Str.ofString "search") _) _ _ _); k_dflt (refine tz_method (by k_in) ?_))
  | ((with_reducible show wpAny _ _ (getMethod (Value.ref _) (Str.ofString "group") _) _ _ _); k_dflt (refine group_method (by k_asm) (by walk_at "mine mem") ?_))))
  k_with "call builtin:re.Pattern.search" => ((k_here; first
  | (refine tz_hit (by k_in) (by k_asm) (by k_asm) (by assumption) (by assumption) (Nat.le_of_ble_eq_true rfl) ?_; intro w9tp' w9mt' w9h' w9F' w9N' w9l1 w9l2; (try k_lt w9l1))
  | (refine tz_miss (by k_in) (by assumption) (by assumption) ?_)))
  k_with "truthy ref" => ((k_here; refine truthy_match (by k_asm) (by walk_at "mine mem") ?_))
  k_with "call builtin:re.Match.group" => ((k_here; first
  | (refine group_k (g := 1) (by k_asm) (by walk_at "mine mem") (by walk_at "mine mem") (by rfl) (by decide) (Nat.le_of_ble_eq_true rfl) (by rfl) (by rfl) (by assumption) (fun _ => ?_) (fun _ _ _ _ _ => ?_) <;> first | (exfalso; omega) | skip)
  | (refine group_k (g := 2) (by k_asm) (by walk_at "mine mem") (by walk_at "mine mem") (by rfl) (by decide) (Nat.le_of_ble_eq_true rfl) (by rfl) (by rfl) (by assumption) (fun _ => ?_) (fun _ _ _ _ _ => ?_) <;> first | (exfalso; omega) | skip)
  | (refine group_k (g := 3) (by k_asm) (by walk_at "mine mem") (by walk_at "mine mem") (by rfl) (by decide) (Nat.le_of_ble_eq_true rfl) (by rfl) (by rfl) (by assumption) (fun _ => ?_) (fun _ _ _ _ _ => ?_) <;> first | (exfalso; omega) | skip)))
  trivial
noncomputable def tzCode : Array Nat := #[14, 4, 0, 1, 6, 6, 0, 23, 14, 0, 1, 17, 0, 13, 6, 16, 45, 16, 43, 0, 17, 1, 18, 17, 2, 13, 4, 8, 0, 0, 24, 9, 0, 1, 13, 4, 8, 0, 0, 1, 17, 3, 24, 6, 0, 1, 16, 58, 1, 23, 17, 0, 1, 17, 4, 13, 4, 8, 0, 0, 13, 4, 8, 0, 0, 17, 5, 18, 6, 5, 1]
section
variable {prog : Program} {w : World} {A : Around} {E : Value → Shared → Prop} {s : Shared} {h₀ : Heap} {L : Addr} {m : Str → Option Value} {news : List (Addr × Obj)} {P : Params}
theorem tz_method {pl : Sem Bool} {Q : Value × List Value → Shared → Prop} (X : (hd.heap_39 P).In s.heap) (h : Q (.builtin "re.Pattern.search", [.ref 101]) s) : wpAny (model prog w) A (getMethod (.ref 101) "search" pl) Q E s :=
  getMethod_search (X 101 _ rfl) rfl rfl h
theorem tz_hit {x : Str} {t : Tok} {l : List Int} {li : Int} {Q : Value → Shared → Prop} (X : (hd.heap_39 P).In s.heap) (F : Fr h₀ L s.heap m) (N : News h₀ L s.heap news) (hx : x.length ≤ 64) (ht : hit tzCode 3 x.cps = some (l, li)) (hl : l.length ≤ 100)
    (h : ∀ tp mt h', Fr h₀ L h' m → News h₀ L h' ((mt, matchObj x t 101 0 x.cps.size li tp) :: (tp, spanObj l) :: news) → (∀ p ∈ news, p.1 < tp) → tp < mt → Q (.ref mt) { s with heap := h' }) :
    wpAny (model prog w) A (call (.builtin "re.Pattern.search") [.ref 101, .str x t]) Q E s :=
  search_hit F N (X 101 _ rfl) rfl rfl rfl rfl rfl (X 100 _ rfl) rfl hx (by decide +kernel) ht hl h
theorem tz_miss {x : Str} {t : Tok} {Q : Value → Shared → Prop} (X : (hd.heap_39 P).In s.heap) (hx : x.length ≤ 64) (ht : miss tzCode 3 x.cps = true) (h : Q .none s) :
    wpAny (model prog w) A (call (.builtin "re.Pattern.search") [.ref 101, .str x t]) Q E s :=
  search_miss (X 101 _ rfl) rfl rfl rfl rfl rfl (X 100 _ rfl) rfl hx (by decide +kernel) ht h
theorem group_k {mt tp a : Addr} {x : Str} {t u : Tok} {pos lim : Nat} {li gi : Int} {l : List Int} {g : Nat} {b e : Int} {Q : Value → Shared → Prop} (N : News h₀ L s.heap news) (h1 : (mt, matchObj x t a pos lim li tp) ∈ news) (h2 : (tp, spanObj l) ∈ news)
    (hgi : gi = (g : Int)) (hg : g < 10) (hl : 2 * g + 1 < l.length) (hb : l[2 * g]? = some b) (he : l[2 * g + 1]? = some e) (hx : x.length ≤ 64)
    (hn : b < 0 ∨ e < 0 → Q .none s) (hs : 0 ≤ b → 0 ≤ e → ∀ t' k, (Str.mk (x.cps.extract b.toNat e.toNat)).length ≤ 64 → Q (.str ⟨x.cps.extract b.toNat e.toNat⟩ t') { s with toks := k }) :
    wpAny (model prog w) A (call (.builtin "re.Match.group") [.ref mt, .int gi u]) Q E s := by
  subst hgi
  refine group_of N h1 h2 hg hl hb he hx hn fun q1 q2 t' k => hs q1 q2 t' k ?_
  show (x.cps.extract b.toNat e.toNat).size ≤ 64
  rw [Array.size_extract]
  exact Nat.le_trans (Nat.le_trans (Nat.sub_le _ _) (Nat.min_le_right _ _)) hx
theorem group_method {mt tp a : Addr} {x : Str} {t : Tok} {pos lim : Nat} {li : Int} {pl : Sem Bool} {Q : Value × List Value → Shared → Prop} (N : News h₀ L s.heap news) (h1 : (mt, matchObj x t a pos lim li tp) ∈ news) (h : Q (.builtin "re.Match.group", [.ref mt]) s) :
    wpAny (model prog w) A (getMethod (.ref mt) "group" pl) Q E s := getMethod_group (N.get h1) rfl rfl h
end
noncomputable abbrev zoneB (x : Str) : Bool := (decide (x = ⟨#[71, 77, 84]⟩) || (decide (x = ⟨#[85, 84, 67]⟩) || (decide (x = ⟨#[85, 84]⟩) || (decide (x = ⟨#[90]⟩) || false))))
set_option maxHeartbeats 8000000 in
theorem tz_three {w : World} {mean : ExcName → Option Value} {mg mb : Str → Option Value} {news : List (Addr × Obj)} (x : Str) (t : Tok) (hx : x.length ≤ 64) (s0 e0 b1 e1 b2 e2 b3 e3 li i2 i3 : Int) (ht : hit tzCode 3 x.cps = some ([s0, e0, b1, e1, b2, e2, b3, e3], li)) (hz : zoneB x = false) (hb2 : 0 ≤ b2) (he2 : 0 ≤ e2) (hi2 : PySem.intText? ⟨x.cps.extract b2.toNat e2.toNat⟩ = some i2) (l2 : 0 ≤ i2) (u2 : i2 ≤ 99) (hb3 : 0 ≤ b3) (he3 : 0 ≤ e3) (hi3 : PySem.intText? ⟨x.cps.extract b3.toNat e3.toNat⟩ = some i3) (l3 : 0 ≤ i3) (u3 : i3 ≤ 99) (hn3 : (Str.mk (x.cps.extract b3.toNat e3.toNat)).length ≠ 0) :
    Claim w mean mg mb 4 108 [.str x t] news (fun v tl => tl = [] ∧ ∃ t, v = .int (if 0 ≤ b1 ∧ 0 ≤ e1 ∧ (Str.mk (x.cps.extract b1.toNat e1.toNat)) = Str.ofString "-" then -(3600 * i2 + 60 * i3) else 3600 * i2 + 60 * i3) t) := by
  delta Claim; k_fill
  intro dp un gd cn cs a ccd cl outer A₀ base h₀ L m s Q E B F X N T hk hd hu hret
  walk_at "mine enter"
  k_steps
  · refine ret0 hret (by k_asm) (by k_asm) (by walk_at "mine sub") ⟨rfl, int_eq ?_⟩
    rw [if_neg (fun q => by have q1 := q.1; have q2 := q.2.1; omega)]
  · refine ret0 hret (by k_asm) (by k_asm) (by walk_at "mine sub") ⟨rfl, int_eq ?_⟩
    rw [if_pos ⟨by assumption, by assumption, eq_of_beq (by assumption)⟩]
  · refine ret0 hret (by k_asm) (by k_asm) (by walk_at "mine sub") ⟨rfl, int_eq ?_⟩
    (rename (_ == _) = false => z)
    rw [if_neg (fun q => by rw [q.2.2] at z; exact absurd z (by decide))]
set_option maxHeartbeats 8000000 in
theorem tz_two {w : World} {mean : ExcName → Option Value} {mg mb : Str → Option Value} {news : List (Addr × Obj)} (x : Str) (t : Tok) (hx : x.length ≤ 64) (s0 e0 b1 e1 b2 e2 b3 e3 li i2 i3 : Int) (ht : hit tzCode 3 x.cps = some ([s0, e0, b1, e1, b2, e2, b3, e3], li)) (hz : zoneB x = false) (hb2 : 0 ≤ b2) (he2 : 0 ≤ e2) (hi2 : PySem.intText? ⟨x.cps.extract b2.toNat e2.toNat⟩ = some i2) (l2 : 0 ≤ i2) (u2 : i2 ≤ 99) (hb3 : b3 < 0) :
    Claim w mean mg mb 4 108 [.str x t] news (fun v tl => tl = [] ∧ ∃ t, v = .int (if 0 ≤ b1 ∧ 0 ≤ e1 ∧ (Str.mk (x.cps.extract b1.toNat e1.toNat)) = Str.ofString "-" then -(3600 * i2) else 3600 * i2) t) := by
  delta Claim; k_fill
  intro dp un gd cn cs a ccd cl outer A₀ base h₀ L m s Q E B F X N T hk hd hu hret
  walk_at "mine enter"
  k_steps
  · refine ret0 hret (by k_asm) (by k_asm) (by walk_at "mine sub") ⟨rfl, int_eq ?_⟩
    rw [if_neg (fun q => by have q1 := q.1; have q2 := q.2.1; omega)]
  · refine ret0 hret (by k_asm) (by k_asm) (by walk_at "mine sub") ⟨rfl, int_eq ?_⟩
    rw [if_pos ⟨by assumption, by assumption, eq_of_beq (by assumption)⟩]
  · refine ret0 hret (by k_asm) (by k_asm) (by walk_at "mine sub") ⟨rfl, int_eq ?_⟩
    (rename (_ == _) = false => z)
    rw [if_neg (fun q => by rw [q.2.2] at z; exact absurd z (by decide))]
set_option maxHeartbeats 8000000 in
theorem tz_none {w : World} {mean : ExcName → Option Value} {mg mb : Str → Option Value} {news : List (Addr × Obj)} (x : Str) (t : Tok) (hx : x.length ≤ 64) (ht : miss tzCode 3 x.cps = true) (hz : zoneB x = false) :
    Claim w mean mg mb 4 108 [.str x t] news (fun v tl => tl = [] ∧ v = .none) := by
  delta Claim; k_fill
  intro dp un gd cn cs a ccd cl outer A₀ base h₀ L m s Q E B F X N T hk hd hu hret
  walk_at "mine enter"
  k_steps
  all_goals (refine ret0 hret (by k_asm) (by k_asm) (by walk_at "mine sub") ⟨rfl, rfl⟩)
set_option maxHeartbeats 8000000 in
theorem tz_name {w : World} {mean : ExcName → Option Value} {mg mb : Str → Option Value} {news : List (Addr × Obj)} (x : Str) (t : Tok) (hx : x.length ≤ 64) (hz : zoneB x = true) :
    Claim w mean mg mb 4 108 [.str x t] news (fun v tl => tl = [] ∧ ∃ t, v = .int 0 t) := by
  delta Claim; k_fill
  intro dp un gd cn cs a ccd cl outer A₀ base h₀ L m s Q E B F X N T hk hd hu hret
  walk_at "mine enter"
  k_steps
  all_goals (refine ret0 hret (by k_asm) (by k_asm) (by walk_at "mine sub") ⟨rfl, _, rfl⟩)
noncomputable def tzI (x : Str) : Option Int := if zoneB x = true ∨ 64 < x.length then none else match hit tzCode 3 x.cps with
  | some ([_, _, b1, e1, b2, e2, b3, e3], _) => if 0 ≤ b2 ∧ 0 ≤ e2 then (match PySem.intText? ⟨x.cps.extract b2.toNat e2.toNat⟩ with
    | some i2 => if 0 ≤ i2 ∧ i2 ≤ 99 then (if b3 < 0 then some (if 0 ≤ b1 ∧ 0 ≤ e1 ∧ (Str.mk (x.cps.extract b1.toNat e1.toNat)) = Str.ofString "-" then -(3600 * i2) else 3600 * i2)
      else if 0 ≤ e3 ∧ (Str.mk (x.cps.extract b3.toNat e3.toNat)).length ≠ 0 then (match PySem.intText? ⟨x.cps.extract b3.toNat e3.toNat⟩ with
        | some i3 => if 0 ≤ i3 ∧ i3 ≤ 99 then some (if 0 ≤ b1 ∧ 0 ≤ e1 ∧ (Str.mk (x.cps.extract b1.toNat e1.toNat)) = Str.ofString "-" then -(3600 * i2 + 60 * i3) else 3600 * i2 + 60 * i3) else none
        | none => none)
      else none) else none
    | none => none) else none
  | _ => none
theorem tz_some {w : World} {mean : ExcName → Option Value} {mg mb : Str → Option Value} {news : List (Addr × Obj)} (x : Str) (t : Tok) (n : Int) (h : tzI x = some n) : Claim w mean mg mb 4 108 [.str x t] news (fun v tl => tl = [] ∧ ∃ t, v = .int n t) := by
  unfold tzI at h
  split at h
  · cases h
  rename_i hz
  have hx : x.length ≤ 64 := by omega
  have hz' : zoneB x = false := by
    cases q : zoneB x with
    | false => rfl
    | true => exact absurd (.inl q) hz
  split at h
  · rename_i s0 e0 b1 e1 b2 e2 b3 e3 li ht
    split at h
    · rename_i h2
      split at h
      · rename_i i2 hi2
        split at h
        · rename_i hr2
          split at h
          · rename_i h3
            cases h
            exact tz_two x t hx s0 e0 b1 e1 b2 e2 b3 e3 li i2 0 ht hz' h2.1 h2.2 hi2 hr2.1 hr2.2 h3
          · rename_i h3
            split at h
            · rename_i h4
              split at h
              · rename_i i3 hi3
                split at h
                · rename_i hr3
                  cases h
                  exact tz_three x t hx s0 e0 b1 e1 b2 e2 b3 e3 li i2 i3 ht hz' h2.1 h2.2 hi2 hr2.1 hr2.2 (by omega) h4.1 hi3 hr3.1 hr3.2 h4.2
                · cases h
              · cases h
            · cases h
        · cases h
      · cases h
    · cases h
  · cases h
end
section
open PySem PySem.W PyProof.Rows PySem.Calls PySem.Spec
open PySem.Builtin PySem.Builtin.Re
theorem words_C4 : True := by
  w_top off
  k_with_none
  k_with "mine room" => ((simp only [depth_under_make, depth_under_kw, depth_in1, depth_deeper, depth_caller, recursionLimit] at *; (try dsimp only [ktrTop] at *); omega))
  k_with "mine enter" => ((refine wpAny_call ?_; first
  | (refine' code_def ?y2k1 ?y2k2 ?y2k3 ?y2k4 ?y2k5 ?y2kA ?y2kF ?y2kK ?y2k6 ?y2k7 ?y2k8 ?y2k9 ?y2kB ?_ ?y2c2 ?y2c3 ?y2c4 ?y2c5; (case y2kA => exact rfl); (case y2kF => exact rfl); (case y2kK => first | exact rfl | assumption); (case y2k1 => k_asm); (case y2k2 => k_asm); (case y2k3 => k_asm); (case y2k4 => k_asm); (case y2k5 => k_asm); (case y2k6 => k_is); (case y2k7 => k_is); (case y2k8 => walk_at "mine room"); (case y2k9 => first | exact BindsTo.of_eq rfl | exact binds_K (by k_in) rfl (by k_is) rfl rfl rfl); (case y2c5 => decide); (case y2kB => exact locs rfl); (case y2c2 => exact rfl); (case y2c3 => exact rfl); (case y2c4 => exact rfl); k_whole; intro w9g' w9L' w9h' w9FG' w9F' w9N' w9B' w9X' w9T'; (try dsimp only); (try k_lift w9B'); (try k_fold))
  | (refine' code_defC ?y2k1 ?y2k2 ?y2k3 ?y2k4 ?y2k5 ?y2kA ?y2kF ?y2kK ?y2k6 ?y2k7 ?y2k8 ?y2k9 ?y2kB ?y2kD ?_ ?y2c2 ?y2c3 ?y2c4; (case y2kA => exact rfl); (case y2kF => exact rfl); (case y2kK => first | exact rfl | assumption); (case y2k1 => k_asm); (case y2k2 => k_asm); (case y2k3 => k_asm); (case y2k4 => k_asm); (case y2k5 => k_asm); (case y2k6 => k_is); (case y2k7 => k_is); (case y2k8 => walk_at "mine room"); (case y2k9 => first | exact BindsTo.of_eq rfl | exact binds_K (by k_in) rfl (by k_is) rfl rfl rfl); (case y2kB => exact rfl); (case y2kD => decide +kernel); (case y2c2 => exact rfl); (case y2c3 => exact rfl); (case y2c4 => exact rfl); k_whole; intro w9g' w9L' w9h' w9tk' w9cells' w9FG' w9F' w9N' w9Y' w9B' w9X' w9T' w9l1; (try k_lt w9l1); k_cells w9Y'; (try simp only [List.cons_append, List.nil_append] at w9N'); (try dsimp only); (try k_lift w9B'); (try k_fold))))
  k_with "call ref" => ((k_here; k_dflt (walk_at "mine enter")))
  k_with "execs cons" => ((k_here; (try k_gentoks); (try dsimp only); (with_reducible refine wpAny_execs_cons ?_); (try dsimp only); k_fold))
  k_with "mine bound" => (first | omega | exact Int.fmod_nonneg_of_pos _ (by decide) | exact Int.fmod_lt_of_pos _ (by decide))
  k_with "mine short" => (first | exact Nat.le_of_ble_eq_true rfl | ((try simp only [PySem.Str.length_append]); (try kopn_lits); omega))
  k_with "mine open" => ((fail_if_success (with_reducible show wpAny _ _ (subscriptTail _ (Expr.Constant _ _ _) _ _) _ _ _)))
  k_with "subscriptTail" => ((k_here; (with_reducible show wpAny _ _ (subscriptTail _ _ (Value.ref _) (Value.int _ _)) _ _ _); walk_at "mine open"; k_dflt (first
  | (refine item_pickS4 3 (by k_asm) (List.Mem.head _) (by walk_at "mine bound") (by walk_at "mine bound") (by walk_at "mine short") (by walk_at "mine short") (by walk_at "mine short") (by walk_at "mine short") ?_; intro _ _)
  | (refine item_pickS4 60 (by k_asm) (List.Mem.head _) (by walk_at "mine bound") (by walk_at "mine bound") (by walk_at "mine short") (by walk_at "mine short") (by walk_at "mine short") (by walk_at "mine short") ?_; intro _ _)
  | (refine item_pickS2 (by k_asm) (List.Mem.head _) (by walk_at "mine bound") (by walk_at "mine bound") (by walk_at "mine short") (by walk_at "mine short") ?_; intro _ _)
  | (refine item_pickI2 (by k_asm) (List.Mem.head _) (by walk_at "mine bound") (by walk_at "mine bound") ?_; intro _))))
  k_with "mine mem" => (first | exact List.Mem.head _ | (refine List.Mem.tail _ ?_; walk_at "mine mem"))
  k_with "pyIter ref" => (((with_reducible show wpAny _ _ (pyIter (Value.ref _)) (fun it s₂ => LoopAtV _ _ _ _ _ _ _ _ _ it s₂) _ _); with_unfolding_all refine iter_listUnr (by rfl) (by k_asm) (by k_asm) (by walk_at "mine mem") (by rfl) (by rfl) ?_; intro w9i' w9l1))
  k_with "UnrEnd" => ((refine unrEnd_of (by k_asm) (by k_asm) (by assumption) ⟨by walk_at "mine mem", ?_⟩))
  k_with "pyIter ref" => (((with_reducible show wpAny _ _ (pyIter (Value.ref _)) (fun it s₂ => TurnsAt _ _ _ _ _ _ _ _ _ it s₂) _ _); with_unfolding_all refine iter_listTurns (by rfl) (by k_asm) (by k_asm) (by walk_at "mine mem") (by rfl) (by rfl) ?_; intro w9i' w9l1))
  k_with "UnrEndW" => ((refine unrEndW_of (by k_asm) (by k_asm) (by assumption) ⟨⟨by walk_at "mine mem", trivial⟩, ?_⟩))
  k_with "mine sub" => ((intro w9p w9hp; first | exact w9hp | (simp only [List.mem_cons, List.mem_append] at w9hp ⊢; first | (simp only [w9hp, true_or, or_true]; done) | (rcases w9hp with w9hp | w9hp <;> simp only [w9hp, true_or, or_true] <;> done))))
  k_with "getMethod ref" => ((k_here; (with_reducible show wpAny _ _ (getMethod (Value.ref 36) (Str.ofString "sub") _) _ _ _); refine q_method (by k_in) ?_))
  k_with "getMethod bytes" => ((k_here; (with_reducible show wpAny _ _ (getMethod (Value.bytes _ _) (Str.ofString "count") _) _ _ _); refine b_method ?_))
  k_with "call builtin:re.Pattern.sub" => ((k_here; refine q_sub (by k_in) (by k_asm) (by k_asm) (by assumption) (by assumption) ?_; intro w9h' w9k' w9x' w9F' w9N'; (try k_sweep)))
  k_with "call builtin:bytes.count" => ((k_here; refine count_bytes ?_; intro _ _))
  trivial
section
variable {prog : Program} {w : World} {A : Around} {E : Value → Shared → Prop} {s : Shared} {h₀ : Heap} {L : Addr} {m : Str → Option Value} {news : List (Addr × Obj)} {P : Params}
theorem q_method {pl : Sem Bool} {Q : Value × List Value → Shared → Prop} (X : (hd.heap_39 P).In s.heap) (h : Q (.builtin "re.Pattern.sub", [.ref 36]) s) : wpAny (model prog w) A (getMethod (.ref 36) "sub" pl) Q E s :=
  getMethod_sub (X 36 _ rfl) rfl rfl h
theorem q_pat {g : Heap} (X : (hd.heap_39 P).In g) : PatB 36 g := ⟨_, _, _, X 36 _ rfl, rfl, rfl, rfl, rfl, rfl, _, _, _, X 35 _ rfl, rfl, by decide +kernel⟩
theorem q_sub {b r : Array UInt8} {t u : Tok} {Q : Value → Shared → Prop} (X : (hd.heap_39 P).In s.heap) (F : Fr h₀ L s.heap m) (N : News h₀ L s.heap news) (hb : b.size ≤ 64) (hr : subR b = some r)
    (h : ∀ h' k x, Fr h₀ L h' m → News h₀ L h' news → Q (.bytes r x) { s with heap := h', toks := k }) :
    wpAny (model prog w) A (call (.builtin "re.Pattern.sub") [.ref 36, .bytes #[] u, .bytes b t]) Q E s :=
  sub_heap (q_pat X) ⟨X 36 _ rfl, rfl⟩ hb hr fun h' k x kp => h h' k x (F.keeps kp) (N.grown kp)
end
theorem b_attrs : PlainAttrs "bytes" :=
  ⟨⟨"bytes.__getattribute__", by rw [typeLookup_type, builtinLookup_eq_fast]; kernel_rfl, by decide +kernel⟩, by rw [typeLookup_type, builtinLookup_eq_fast]; kernel_rfl⟩
theorem type_bcount : typeOf (.builtin "bytes.count") = pure (.type "method_descriptor") := by show builtinType _ = _; rw [builtinType_eq_fast]; kernel_rfl
theorem b_method {M : Model} {A : Around} {E : Value → Shared → Prop} {s : Shared} {b : Array UInt8} {t : Tok} {pl : Sem Bool} {Q : Value × List Value → Shared → Prop} (h : Q (.builtin "bytes.count", [.bytes b t]) s) : wpAny M A (getMethod (.bytes b t) "count" pl) Q E s :=
  getMethod_builtin (T := "bytes") rfl b_attrs slot_bcount type_bcount (fun _ e => by cases e) h
set_option maxHeartbeats 8000000 in
theorem pd_c {w : World} {mean : ExcName → Option Value} {mg mb : Str → Option Value} {news : List (Addr × Obj)} (b r : Array UInt8) (t t2 : Tok) (dep : Int) (hb : b.size ≤ 64) (hr : subR b = some r) :
    Claim w mean mg mb 4 44 [.bytes b t, .int dep t2] news (fun v tl => tl = [] ∧ ∃ t, v = .int (dep + (cntB r #[40] : Int) - (cntB r #[41] : Int)) t) := by
  delta Claim; k_fill
  intro dp un gd cn cs a ccd cl outer A₀ base h₀ L m s Q E B F X N T hk hd hu hret
  walk_at "mine enter"
  k_steps
  refine ret0 hret (by k_asm) (by k_asm) (by walk_at "mine sub") ⟨rfl, _, rfl⟩
set_option maxHeartbeats 8000000 in
theorem pd_0 {w : World} {mean : ExcName → Option Value} {mg mb : Str → Option Value} {news : List (Addr × Obj)} (b r : Array UInt8) (t : Tok) (hb : b.size ≤ 64) (hr : subR b = some r) :
    Claim w mean mg mb 4 44 [.bytes b t] news (fun v tl => tl = [] ∧ ∃ t, v = .int (0 + (cntB r #[40] : Int) - (cntB r #[41] : Int)) t) := by
  delta Claim; k_fill
  intro dp un gd cn cs a ccd cl outer A₀ base h₀ L m s Q E B F X N T hk hd hu hret
  walk_at "mine enter"
  k_steps
  refine ret0 hret (by k_asm) (by k_asm) (by walk_at "mine sub") ⟨rfl, _, rfl⟩
end
section
open PySem PySem.W PyProof.Rows PySem.Calls PySem.Spec
noncomputable def digT (a : Int) : Str := ⟨#[48 + a.toNat]⟩
noncomputable abbrev zoneT (sg : Str) (b way : Int) : Str := sg ++ pick4 way (Str.ofString "0" ++ digT b ++ Str.ofString ":") (Str.ofString "0" ++ digT b) (digT b ++ Str.ofString ":") (digT b) ++ digT b ++ Str.ofString "0"
noncomputable def noTz (x : Str) : Bool := !zoneB x && miss tzCode 3 x.cps && decide (x.length ≤ 64)
noncomputable def zoneOk (sg : Str) (b way n : Int) : Bool := decide (tzI (zoneT sg b way) = some n) && noTz (zoneT sg b way ++ Str.ofString "x") && noTz (Str.ofString "x" ++ zoneT sg b way)
theorem z_m1 : (zoneOk (Str.ofString "-") 1 0 (4200 * -1) && zoneOk (Str.ofString "-") 1 1 (4200 * -1) && zoneOk (Str.ofString "-") 1 2 (4200 * -1) && zoneOk (Str.ofString "-") 1 3 (4200 * -1)) = true := by decide +kernel
theorem u_m1 : (decide (tzI (Str.ofString "-" ++ digT 1 ++ pick2 0 (Str.ofString "0") (Str.ofString "")) = some (pick2 0 36000 3600 * -1)) && decide (tzI (Str.ofString "-" ++ digT 1 ++ pick2 1 (Str.ofString "0") (Str.ofString "")) = some (pick2 1 36000 3600 * -1))) = true := by decide +kernel
theorem z_m2 : (zoneOk (Str.ofString "-") 2 0 (4200 * -2) && zoneOk (Str.ofString "-") 2 1 (4200 * -2) && zoneOk (Str.ofString "-") 2 2 (4200 * -2) && zoneOk (Str.ofString "-") 2 3 (4200 * -2)) = true := by decide +kernel
theorem u_m2 : (decide (tzI (Str.ofString "-" ++ digT 2 ++ pick2 0 (Str.ofString "0") (Str.ofString "")) = some (pick2 0 36000 3600 * -2)) && decide (tzI (Str.ofString "-" ++ digT 2 ++ pick2 1 (Str.ofString "0") (Str.ofString "")) = some (pick2 1 36000 3600 * -2))) = true := by decide +kernel
theorem z_m3 : (zoneOk (Str.ofString "-") 3 0 (4200 * -3) && zoneOk (Str.ofString "-") 3 1 (4200 * -3) && zoneOk (Str.ofString "-") 3 2 (4200 * -3) && zoneOk (Str.ofString "-") 3 3 (4200 * -3)) = true := by decide +kernel
theorem u_m3 : (decide (tzI (Str.ofString "-" ++ digT 3 ++ pick2 0 (Str.ofString "0") (Str.ofString "")) = some (pick2 0 36000 3600 * -3)) && decide (tzI (Str.ofString "-" ++ digT 3 ++ pick2 1 (Str.ofString "0") (Str.ofString "")) = some (pick2 1 36000 3600 * -3))) = true := by decide +kernel
theorem z_m4 : (zoneOk (Str.ofString "-") 4 0 (4200 * -4) && zoneOk (Str.ofString "-") 4 1 (4200 * -4) && zoneOk (Str.ofString "-") 4 2 (4200 * -4) && zoneOk (Str.ofString "-") 4 3 (4200 * -4)) = true := by decide +kernel
theorem u_m4 : (decide (tzI (Str.ofString "-" ++ digT 4 ++ pick2 0 (Str.ofString "0") (Str.ofString "")) = some (pick2 0 36000 3600 * -4)) && decide (tzI (Str.ofString "-" ++ digT 4 ++ pick2 1 (Str.ofString "0") (Str.ofString "")) = some (pick2 1 36000 3600 * -4))) = true := by decide +kernel
theorem z_p0 : (zoneOk (Str.ofString "+") 0 0 (4200 * 0) && zoneOk (Str.ofString "+") 0 1 (4200 * 0) && zoneOk (Str.ofString "+") 0 2 (4200 * 0) && zoneOk (Str.ofString "+") 0 3 (4200 * 0)) = true := by decide +kernel
theorem u_p0 : (decide (tzI (Str.ofString "+" ++ digT 0 ++ pick2 0 (Str.ofString "0") (Str.ofString "")) = some (pick2 0 36000 3600 * 0)) && decide (tzI (Str.ofString "+" ++ digT 0 ++ pick2 1 (Str.ofString "0") (Str.ofString "")) = some (pick2 1 36000 3600 * 0))) = true := by decide +kernel
theorem z_p1 : (zoneOk (Str.ofString "+") 1 0 (4200 * 1) && zoneOk (Str.ofString "+") 1 1 (4200 * 1) && zoneOk (Str.ofString "+") 1 2 (4200 * 1) && zoneOk (Str.ofString "+") 1 3 (4200 * 1)) = true := by decide +kernel
theorem u_p1 : (decide (tzI (Str.ofString "+" ++ digT 1 ++ pick2 0 (Str.ofString "0") (Str.ofString "")) = some (pick2 0 36000 3600 * 1)) && decide (tzI (Str.ofString "+" ++ digT 1 ++ pick2 1 (Str.ofString "0") (Str.ofString "")) = some (pick2 1 36000 3600 * 1))) = true := by decide +kernel
theorem z_p2 : (zoneOk (Str.ofString "+") 2 0 (4200 * 2) && zoneOk (Str.ofString "+") 2 1 (4200 * 2) && zoneOk (Str.ofString "+") 2 2 (4200 * 2) && zoneOk (Str.ofString "+") 2 3 (4200 * 2)) = true := by decide +kernel
theorem u_p2 : (decide (tzI (Str.ofString "+" ++ digT 2 ++ pick2 0 (Str.ofString "0") (Str.ofString "")) = some (pick2 0 36000 3600 * 2)) && decide (tzI (Str.ofString "+" ++ digT 2 ++ pick2 1 (Str.ofString "0") (Str.ofString "")) = some (pick2 1 36000 3600 * 2))) = true := by decide +kernel
theorem z_p3 : (zoneOk (Str.ofString "+") 3 0 (4200 * 3) && zoneOk (Str.ofString "+") 3 1 (4200 * 3) && zoneOk (Str.ofString "+") 3 2 (4200 * 3) && zoneOk (Str.ofString "+") 3 3 (4200 * 3)) = true := by decide +kernel
theorem u_p3 : (decide (tzI (Str.ofString "+" ++ digT 3 ++ pick2 0 (Str.ofString "0") (Str.ofString "")) = some (pick2 0 36000 3600 * 3)) && decide (tzI (Str.ofString "+" ++ digT 3 ++ pick2 1 (Str.ofString "0") (Str.ofString "")) = some (pick2 1 36000 3600 * 3))) = true := by decide +kernel
theorem z_p4 : (zoneOk (Str.ofString "+") 4 0 (4200 * 4) && zoneOk (Str.ofString "+") 4 1 (4200 * 4) && zoneOk (Str.ofString "+") 4 2 (4200 * 4) && zoneOk (Str.ofString "+") 4 3 (4200 * 4)) = true := by decide +kernel
theorem u_p4 : (decide (tzI (Str.ofString "+" ++ digT 4 ++ pick2 0 (Str.ofString "0") (Str.ofString "")) = some (pick2 0 36000 3600 * 4)) && decide (tzI (Str.ofString "+" ++ digT 4 ++ pick2 1 (Str.ofString "0") (Str.ofString "")) = some (pick2 1 36000 3600 * 4))) = true := by decide +kernel
theorem z_e0 : (zoneOk (Str.ofString "") 0 1 (4200 * 0) && zoneOk (Str.ofString "") 0 3 (4200 * 0)) = true := by decide +kernel
theorem z_e1 : (zoneOk (Str.ofString "") 1 1 (4200 * 1) && zoneOk (Str.ofString "") 1 3 (4200 * 1)) = true := by decide +kernel
theorem z_e2 : (zoneOk (Str.ofString "") 2 1 (4200 * 2) && zoneOk (Str.ofString "") 2 3 (4200 * 2)) = true := by decide +kernel
theorem z_e3 : (zoneOk (Str.ofString "") 3 1 (4200 * 3) && zoneOk (Str.ofString "") 3 3 (4200 * 3)) = true := by decide +kernel
theorem z_e4 : (zoneOk (Str.ofString "") 4 1 (4200 * 4) && zoneOk (Str.ofString "") 4 3 (4200 * 4)) = true := by decide +kernel
theorem n_low : ∀ k : Fin 4, noTz (Txt.lower (pick4 k.val (Str.ofString "GMT") (Str.ofString "UTC") (Str.ofString "UT") (Str.ofString "Z"))) = true := by decide +kernel
theorem n_up : ∀ k : Fin 4, zoneB (pick4 k.val (Str.ofString "GMT") (Str.ofString "UTC") (Str.ofString "UT") (Str.ofString "Z")) = true := by decide +kernel
theorem way_cases {way : Int} (h3 : 0 ≤ way) (h4 : way < 4) : way = 0 ∨ way = 1 ∨ way = 2 ∨ way = 3 := by omega
theorem step_neg {step b : Int} (h : step < 0) (h1 : -4 ≤ step) (hb : b = if step < 0 then -step else step) : step = -b ∧ (b = 1 ∨ b = 2 ∨ b = 3 ∨ b = 4) := by rw [if_pos h] at hb; omega
theorem step_pos {step b : Int} (h : ¬ step < 0) (h2 : step ≤ 4) (hb : b = if step < 0 then -step else step) : step = b ∧ (b = 0 ∨ b = 1 ∨ b = 2 ∨ b = 3 ∨ b = 4) := by rw [if_neg h] at hb; omega
theorem and4 {a b c d : Bool} (h : (a && b && c && d) = true) : a = true ∧ b = true ∧ c = true ∧ d = true := by simp only [Bool.and_eq_true] at h; exact ⟨h.1.1.1, h.1.1.2, h.1.2, h.2⟩
theorem and2 {a b : Bool} (h : (a && b) = true) : a = true ∧ b = true := by simpa only [Bool.and_eq_true] using h
theorem zone_m {step b way : Int} (h : step < 0) (h1 : -4 ≤ step) (hb : b = if step < 0 then -step else step) (h3 : 0 ≤ way) (h4 : way < 4) : zoneOk (Str.ofString "-") b way (4200 * step) = true := by
  obtain ⟨e, c⟩ := step_neg h h1 hb
  subst e; clear hb h h1
  rcases c with rfl | rfl | rfl | rfl
  · have q := and4 z_m1
    rcases way_cases h3 h4 with rfl | rfl | rfl | rfl
    · exact q.1
    · exact q.2.1
    · exact q.2.2.1
    · exact q.2.2.2
  · have q := and4 z_m2
    rcases way_cases h3 h4 with rfl | rfl | rfl | rfl
    · exact q.1
    · exact q.2.1
    · exact q.2.2.1
    · exact q.2.2.2
  · have q := and4 z_m3
    rcases way_cases h3 h4 with rfl | rfl | rfl | rfl
    · exact q.1
    · exact q.2.1
    · exact q.2.2.1
    · exact q.2.2.2
  · have q := and4 z_m4
    rcases way_cases h3 h4 with rfl | rfl | rfl | rfl
    · exact q.1
    · exact q.2.1
    · exact q.2.2.1
    · exact q.2.2.2
theorem zone_p {step b way : Int} (h : ¬ step < 0) (h2 : step ≤ 4) (hb : b = if step < 0 then -step else step) (h3 : 0 ≤ way) (h4 : way < 4) : zoneOk (Str.ofString "+") b way (4200 * step) = true := by
  obtain ⟨e, c⟩ := step_pos h h2 hb
  subst e; clear hb h h2
  rcases c with rfl | rfl | rfl | rfl | rfl
  · have q := and4 z_p0
    rcases way_cases h3 h4 with rfl | rfl | rfl | rfl
    · exact q.1
    · exact q.2.1
    · exact q.2.2.1
    · exact q.2.2.2
  · have q := and4 z_p1
    rcases way_cases h3 h4 with rfl | rfl | rfl | rfl
    · exact q.1
    · exact q.2.1
    · exact q.2.2.1
    · exact q.2.2.2
  · have q := and4 z_p2
    rcases way_cases h3 h4 with rfl | rfl | rfl | rfl
    · exact q.1
    · exact q.2.1
    · exact q.2.2.1
    · exact q.2.2.2
  · have q := and4 z_p3
    rcases way_cases h3 h4 with rfl | rfl | rfl | rfl
    · exact q.1
    · exact q.2.1
    · exact q.2.2.1
    · exact q.2.2.2
  · have q := and4 z_p4
    rcases way_cases h3 h4 with rfl | rfl | rfl | rfl
    · exact q.1
    · exact q.2.1
    · exact q.2.2.1
    · exact q.2.2.2
theorem zone_e {step b way : Int} (h : ¬ step < 0) (h2 : step ≤ 4) (hb : b = if step < 0 then -step else step) (h3 : 0 ≤ way) (h4 : way < 4) (ho : Int.fmod way 2 = 1) : zoneOk (Str.ofString "") b way (4200 * step) = true := by
  obtain ⟨e, c⟩ := step_pos h h2 hb
  subst e; clear hb h h2
  rcases c with rfl | rfl | rfl | rfl | rfl
  · have q := and2 z_e0
    rcases way_cases h3 h4 with rfl | rfl | rfl | rfl
    · exact absurd ho (by decide)
    · exact q.1
    · exact absurd ho (by decide)
    · exact q.2
  · have q := and2 z_e1
    rcases way_cases h3 h4 with rfl | rfl | rfl | rfl
    · exact absurd ho (by decide)
    · exact q.1
    · exact absurd ho (by decide)
    · exact q.2
  · have q := and2 z_e2
    rcases way_cases h3 h4 with rfl | rfl | rfl | rfl
    · exact absurd ho (by decide)
    · exact q.1
    · exact absurd ho (by decide)
    · exact q.2
  · have q := and2 z_e3
    rcases way_cases h3 h4 with rfl | rfl | rfl | rfl
    · exact absurd ho (by decide)
    · exact q.1
    · exact absurd ho (by decide)
    · exact q.2
  · have q := and2 z_e4
    rcases way_cases h3 h4 with rfl | rfl | rfl | rfl
    · exact absurd ho (by decide)
    · exact q.1
    · exact absurd ho (by decide)
    · exact q.2
theorem two_cases (way : Int) : Int.fmod way 2 = 0 ∨ Int.fmod way 2 = 1 := by have := Int.fmod_nonneg_of_pos way (show (0:Int) < 2 by decide); have := Int.fmod_lt_of_pos way (show (0:Int) < 2 by decide); omega
theorem hour_m {step b way : Int} (h : step < 0) (h1 : -4 ≤ step) (hb : b = if step < 0 then -step else step) : tzI (Str.ofString "-" ++ digT b ++ pick2 (Int.fmod way 2) (Str.ofString "0") (Str.ofString "")) = some (pick2 (Int.fmod way 2) 36000 3600 * step) := by
  obtain ⟨e, c⟩ := step_neg h h1 hb
  subst e; clear hb h h1
  rcases c with rfl | rfl | rfl | rfl
  · have q := and2 u_m1
    rcases two_cases way with e | e <;> rw [e]
    · exact of_decide_eq_true q.1
    · exact of_decide_eq_true q.2
  · have q := and2 u_m2
    rcases two_cases way with e | e <;> rw [e]
    · exact of_decide_eq_true q.1
    · exact of_decide_eq_true q.2
  · have q := and2 u_m3
    rcases two_cases way with e | e <;> rw [e]
    · exact of_decide_eq_true q.1
    · exact of_decide_eq_true q.2
  · have q := and2 u_m4
    rcases two_cases way with e | e <;> rw [e]
    · exact of_decide_eq_true q.1
    · exact of_decide_eq_true q.2
theorem hour_p {step b way : Int} (h : ¬ step < 0) (h2 : step ≤ 4) (hb : b = if step < 0 then -step else step) : tzI (Str.ofString "+" ++ digT b ++ pick2 (Int.fmod way 2) (Str.ofString "0") (Str.ofString "")) = some (pick2 (Int.fmod way 2) 36000 3600 * step) := by
  obtain ⟨e, c⟩ := step_pos h h2 hb
  subst e; clear hb h h2
  rcases c with rfl | rfl | rfl | rfl | rfl
  · have q := and2 u_p0
    rcases two_cases way with e | e <;> rw [e]
    · exact of_decide_eq_true q.1
    · exact of_decide_eq_true q.2
  · have q := and2 u_p1
    rcases two_cases way with e | e <;> rw [e]
    · exact of_decide_eq_true q.1
    · exact of_decide_eq_true q.2
  · have q := and2 u_p2
    rcases two_cases way with e | e <;> rw [e]
    · exact of_decide_eq_true q.1
    · exact of_decide_eq_true q.2
  · have q := and2 u_p3
    rcases two_cases way with e | e <;> rw [e]
    · exact of_decide_eq_true q.1
    · exact of_decide_eq_true q.2
  · have q := and2 u_p4
    rcases two_cases way with e | e <;> rw [e]
    · exact of_decide_eq_true q.1
    · exact of_decide_eq_true q.2
theorem low_no {way : Int} (h3 : 0 ≤ way) (h4 : way < 4) : noTz (Txt.lower (pick4 way (Str.ofString "GMT") (Str.ofString "UTC") (Str.ofString "UT") (Str.ofString "Z"))) = true := by
  have := n_low ⟨way.toNat, by omega⟩
  have e : ((⟨way.toNat, by omega⟩ : Fin 4).val : Int) = way := by simp only; omega
  rw [e] at this; exact this
theorem up_zone {way : Int} (h3 : 0 ≤ way) (h4 : way < 4) : zoneB (pick4 way (Str.ofString "GMT") (Str.ofString "UTC") (Str.ofString "UT") (Str.ofString "Z")) = true := by
  have := n_up ⟨way.toNat, by omega⟩
  have e : ((⟨way.toNat, by omega⟩ : Fin 4).val : Int) = way := by simp only; omega
  rw [e] at this; exact this
theorem tz_no {w : World} {mean : ExcName → Option Value} {mg mb : Str → Option Value} {news : List (Addr × Obj)} (x : Str) (t : Tok) (h : noTz x = true) : Claim w mean mg mb 4 108 [.str x t] news (fun v tl => tl = [] ∧ v = .none) := by
  unfold noTz at h
  simp only [Bool.and_eq_true, Bool.not_eq_true', decide_eq_true_eq] at h
  exact tz_none x t h.2 h.1.2 h.1.1
end
section
open PySem PySem.W PyProof.Rows PySem.Calls PySem.Spec
section
variable {prog : Program} {w : World} {A : Around} {E : Value → Shared → Prop} {s : Shared} {h₀ : Heap} {L : Addr} {m : Str → Option Value} {news : List (Addr × Obj)} {Q : Value → Shared → Prop}
inductive JoinEnd (h₀ : Heap) (L : Addr) (m : Str → Option Value) (news : List (Addr × Obj)) (s : Shared) (P : Str → Prop) (v : Value) (s' : Shared) : Prop
  | intro (sg u h' tk) (f1 : v = .str sg u) (f2 : s' = { s with heap := h', toks := tk }) (f3 : Fr h₀ L h' m) (f4 : News h₀ L h' news) (f5 : P sg)
theorem join_str {M : Model} {t : Sem Value} {P : Str → Prop} (_F : Fr h₀ L s.heap m) (_N : News h₀ L s.heap news) (h : wpAny M A t (JoinEnd h₀ L m news s P) E s)
    (k : ∀ sg u h' tk, Fr h₀ L h' m → News h₀ L h' news → P sg → Q (.str sg u) { s with heap := h', toks := tk }) : wpAny M A t Q E s :=
  wpAny_mono h (fun v s' hq => by
    obtain ⟨sg, u, h', tk, rfl, rfl, F', N', p⟩ := hq
    exact k sg u h' tk F' N' p) fun _ _ e => e
end
end
section
open PySem PySem.W PyProof.Rows PySem.Calls PySem.Spec
theorem words_C5 : True := by
  w_top off
  k_with_none
  k_with "mine room" => ((simp only [depth_under_make, depth_under_kw, depth_in1, depth_deeper, depth_caller, recursionLimit] at *; (try dsimp only [ktrTop] at *); omega))
  k_with "mine enter" => ((refine wpAny_call ?_; first
  | (refine' code_def ?y2k1 ?y2k2 ?y2k3 ?y2k4 ?y2k5 ?y2kA ?y2kF ?y2kK ?y2k6 ?y2k7 ?y2k8 ?y2k9 ?y2kB ?_ ?y2c2 ?y2c3 ?y2c4 ?y2c5; (case y2kA => exact rfl); (case y2kF => exact rfl); (case y2kK => first | exact rfl | assumption); (case y2k1 => k_asm); (case y2k2 => k_asm); (case y2k3 => k_asm); (case y2k4 => k_asm); (case y2k5 => k_asm); (case y2k6 => k_is); (case y2k7 => k_is); (case y2k8 => walk_at "mine room"); (case y2k9 => first | exact BindsTo.of_eq rfl | exact binds_K (by k_in) rfl (by k_is) rfl rfl rfl); (case y2c5 => decide); (case y2kB => exact locs rfl); (case y2c2 => exact rfl); (case y2c3 => exact rfl); (case y2c4 => exact rfl); k_whole; intro w9g' w9L' w9h' w9FG' w9F' w9N' w9B' w9X' w9T'; (try dsimp only); (try k_lift w9B'); (try k_fold))
  | (refine' code_defC ?y2k1 ?y2k2 ?y2k3 ?y2k4 ?y2k5 ?y2kA ?y2kF ?y2kK ?y2k6 ?y2k7 ?y2k8 ?y2k9 ?y2kB ?y2kD ?_ ?y2c2 ?y2c3 ?y2c4; (case y2kA => exact rfl); (case y2kF => exact rfl); (case y2kK => first | exact rfl | assumption); (case y2k1 => k_asm); (case y2k2 => k_asm); (case y2k3 => k_asm); (case y2k4 => k_asm); (case y2k5 => k_asm); (case y2k6 => k_is); (case y2k7 => k_is); (case y2k8 => walk_at "mine room"); (case y2k9 => first | exact BindsTo.of_eq rfl | exact binds_K (by k_in) rfl (by k_is) rfl rfl rfl); (case y2kB => exact rfl); (case y2kD => decide +kernel); (case y2c2 => exact rfl); (case y2c3 => exact rfl); (case y2c4 => exact rfl); k_whole; intro w9g' w9L' w9h' w9tk' w9cells' w9FG' w9F' w9N' w9Y' w9B' w9X' w9T' w9l1; (try k_lt w9l1); k_cells w9Y'; (try simp only [List.cons_append, List.nil_append] at w9N'); (try dsimp only); (try k_lift w9B'); (try k_fold))))
  k_with "call ref" => ((k_here; k_dflt (walk_at "mine enter")))
  k_with "execs cons" => ((k_here; (try k_gentoks); (try dsimp only); (with_reducible refine wpAny_execs_cons ?_); (try dsimp only); k_fold))
  k_with "mine bound" => (first | omega | exact Int.fmod_nonneg_of_pos _ (by decide) | exact Int.fmod_lt_of_pos _ (by decide))
  k_with "mine short" => (first | exact Nat.le_of_ble_eq_true rfl | ((try simp only [PySem.Str.length_append]); (try kopn_lits); omega))
  k_with "mine open" => ((fail_if_success (with_reducible show wpAny _ _ (subscriptTail _ (Expr.Constant _ _ _) _ _) _ _ _)))
  k_with "subscriptTail" => ((k_here; (with_reducible show wpAny _ _ (subscriptTail _ _ (Value.ref _) (Value.int _ _)) _ _ _); walk_at "mine open"; k_dflt (first
  | (refine item_pickS4 3 (by k_asm) (List.Mem.head _) (by walk_at "mine bound") (by walk_at "mine bound") (by walk_at "mine short") (by walk_at "mine short") (by walk_at "mine short") (by walk_at "mine short") ?_; intro _ _)
  | (refine item_pickS4 60 (by k_asm) (List.Mem.head _) (by walk_at "mine bound") (by walk_at "mine bound") (by walk_at "mine short") (by walk_at "mine short") (by walk_at "mine short") (by walk_at "mine short") ?_; intro _ _)
  | (refine item_pickS2 (by k_asm) (List.Mem.head _) (by walk_at "mine bound") (by walk_at "mine bound") (by walk_at "mine short") (by walk_at "mine short") ?_; intro _ _)
  | (refine item_pickI2 (by k_asm) (List.Mem.head _) (by walk_at "mine bound") (by walk_at "mine bound") ?_; intro _))))
  k_with "mine mem" => (first | exact List.Mem.head _ | (refine List.Mem.tail _ ?_; walk_at "mine mem"))
  k_with "pyIter ref" => (((with_reducible show wpAny _ _ (pyIter (Value.ref _)) (fun it s₂ => LoopAtV _ _ _ _ _ _ _ _ _ it s₂) _ _); with_unfolding_all refine iter_listUnr (by rfl) (by k_asm) (by k_asm) (by walk_at "mine mem") (by rfl) (by rfl) ?_; intro w9i' w9l1))
  k_with "UnrEnd" => ((refine unrEnd_of (by k_asm) (by k_asm) (by assumption) ⟨by walk_at "mine mem", ?_⟩))
  k_with "pyIter ref" => (((with_reducible show wpAny _ _ (pyIter (Value.ref _)) (fun it s₂ => TurnsAt _ _ _ _ _ _ _ _ _ it s₂) _ _); with_unfolding_all refine iter_listTurns (by rfl) (by k_asm) (by k_asm) (by walk_at "mine mem") (by rfl) (by rfl) ?_; intro w9i' w9l1))
  k_with "UnrEndW" => ((refine unrEndW_of (by k_asm) (by k_asm) (by assumption) ⟨⟨by walk_at "mine mem", trivial⟩, ?_⟩))
  k_with "mine sub" => ((intro w9p w9hp; first | exact w9hp | (simp only [List.mem_cons, List.mem_append] at w9hp ⊢; first | (simp only [w9hp, true_or, or_true]; done) | (rcases w9hp with w9hp | w9hp <;> simp only [w9hp, true_or, or_true] <;> done))))
  k_with "call builtin:abs" => ((k_here; refine abs_k (by assumption) (by assumption) ?_; intro _ _ _ _ _ _))
  k_with "call type:str" => ((k_here; (with_reducible show wpAny _ _ (call (Value.type "str") [Value.int _ _]) _ _ _); refine str_k (by omega) (by omega) ?_; intro _ _ _))
  k_with "call ref" => ((k_here; (with_reducible show wpAny _ _ (call (Value.ref 108) [Value.str _ _]) _ _ _); k_dflt (first
  | (refine' Claim.use (tz_no _ _ ?y27h1) ?y27B ?y27F ?y27X ?y27N ?y27T ?y27K ?y27d ?y27u ?_; (case y27B => k_asm); (case y27F => k_asm); (case y27X => k_asm); (case y27N => k_asm); (case y27T => k_asm); (case y27K => first | exact rfl | assumption); (case y27d => walk_at "mine room"); (case y27u => walk_at "mine room"); (case y27h1 => with_reducible first | exact ZF.z1 (by assumption) | exact ZF.z2 (by assumption) | exact ZF.z4 (by assumption)); k_whole; intro w9v' w9tl' w9h' w9tk' w9F' w9N' w9r'; obtain ⟨w9tl0, w9v0⟩ := w9r'; subst w9tl0; subst w9v0; (try simp only [List.nil_append, List.cons_append] at w9N'); (try dsimp only); (try k_sweep))
  | (refine' Claim.use (tz_name _ _ ?y27h1 ?y27h2) ?y27B ?y27F ?y27X ?y27N ?y27T ?y27K ?y27d ?y27u ?_; (case y27B => k_asm); (case y27F => k_asm); (case y27X => k_asm); (case y27N => k_asm); (case y27T => k_asm); (case y27K => first | exact rfl | assumption); (case y27d => walk_at "mine room"); (case y27u => walk_at "mine room"); (case y27h2 => with_reducible exact ZF.z5 (by assumption)); (case y27h1 => walk_at "mine short"); k_whole; intro w9v' w9tl' w9h' w9tk' w9F' w9N' w9r'; obtain ⟨w9tl0, w9t9, w9v0⟩ := w9r'; subst w9tl0; subst w9v0; (try simp only [List.nil_append, List.cons_append] at w9N'); (try dsimp only); (try k_sweep))
  | (refine' Claim.use (tz_some _ _ _ ?y27h1) ?y27B ?y27F ?y27X ?y27N ?y27T ?y27K ?y27d ?y27u ?_; (case y27B => k_asm); (case y27F => k_asm); (case y27X => k_asm); (case y27N => k_asm); (case y27T => k_asm); (case y27K => first | exact rfl | assumption); (case y27d => walk_at "mine room"); (case y27u => walk_at "mine room"); (case y27h1 => with_reducible first | exact ZF.z0 (by assumption) | exact ZF.z3 (by assumption)); k_whole; intro w9v' w9tl' w9h' w9tk' w9F' w9N' w9r'; obtain ⟨w9tl0, w9t9, w9v0⟩ := w9r'; subst w9tl0; subst w9v0; (try simp only [List.nil_append, List.cons_append] at w9N'); (try dsimp only); (try k_sweep)))))
  k_with "eval BinOp" => (((with_reducible show wpAny _ _ (eval (Expr.BinOp (Expr.BinOp (Expr.BinOp (Expr.IfExp _ _ _ _) _ _ _) _ _ _) _ _ _) _) _ _ _); apply Stop.out))
  k_with "eval IfExp" => (((with_reducible show wpAny _ _ (eval (Expr.IfExp _ _ _ _) _) _ _ _); apply Stop.out))
  trivial
theorem dig_nat {a : Int} (h0 : 0 ≤ a) (h1 : a ≤ 9) : ∃ k : Fin 10, a = ((k.val : Nat) : Int) := ⟨⟨a.toNat, by omega⟩, by simp only; omega⟩
theorem digT_fin : ∀ k : Fin 10, Str.ofString (toString ((k.val : Nat) : Int)) = digT ((k.val : Nat) : Int) ∧ ((k.val : Nat) : Int).natAbs.log2 < 1920 := by decide +kernel
theorem digT_is {a : Int} (h0 : 0 ≤ a) (h1 : a ≤ 9) : Str.ofString (toString a) = digT a := by
  obtain ⟨k, rfl⟩ := dig_nat h0 h1
  exact (digT_fin k).1
theorem log_small {a : Int} (h0 : 0 ≤ a) (h1 : a ≤ 9) : a.natAbs.log2 < 1920 := by
  obtain ⟨k, rfl⟩ := dig_nat h0 h1
  exact (digT_fin k).2
theorem str_k {prog : Program} {w : World} {A : Around} {E : Value → Shared → Prop} {s : Shared} {Q : Value → Shared → Prop} {a : Int} {u : Tok} (h0 : 0 ≤ a) (h1 : a ≤ 9) (h : ∀ t k, (digT a).length = 1 → Q (.str (digT a) t) { s with toks := k }) :
    wpAny (model prog w) A (call (.type "str") [.int a u]) Q E s := by
  refine P.str_of_int (log_small h0 h1) ?_
  have := h s.toks (s.toks + 1) rfl
  rw [← digT_is h0 h1] at this
  exact this
theorem abs_k {prog : Program} {w : World} {A : Around} {E : Value → Shared → Prop} {s : Shared} {Q : Value → Shared → Prop} {a : Int} {u : Tok} (h1 : -4 ≤ a) (h2 : a ≤ 4) (h : ∀ b t k, 0 ≤ b → b ≤ 4 → b = (if a < 0 then -a else a) → Q (.int b t) { s with toks := k }) :
    wpAny (model prog w) A (call (.builtin "abs") [.int a u]) Q E s := by
  refine call_abs_int ?_
  intro t k
  refine h _ t k ?_ ?_ rfl <;> split <;> omega
theorem ok0 {sg : Str} {b way n : Int} (h : zoneOk sg b way n = true) : tzI (zoneT sg b way) = some n := by unfold zoneOk at h; simp only [Bool.and_eq_true, decide_eq_true_eq] at h; exact h.1.1
theorem ok1 {sg : Str} {b way n : Int} (h : zoneOk sg b way n = true) : noTz (zoneT sg b way ++ Str.ofString "x") = true := by unfold zoneOk at h; simp only [Bool.and_eq_true, decide_eq_true_eq] at h; exact h.1.2
theorem ok2 {sg : Str} {b way n : Int} (h : zoneOk sg b way n = true) : noTz (Str.ofString "x" ++ zoneT sg b way) = true := by unfold zoneOk at h; simp only [Bool.and_eq_true, decide_eq_true_eq] at h; exact h.2
/-- the sign, and the zone's -/
noncomputable def SgP (step : Int) (sg : Str) : Prop := (step < 0 ∧ sg = Str.ofString "-") ∨ (¬ step < 0 ∧ sg = Str.ofString "+")
noncomputable def ZgP (step way : Int) (sg zg : Str) : Prop := (zg = Str.ofString "" ∧ ¬ step < 0 ∧ Int.fmod way 2 = 1) ∨ zg = sg
theorem zone_all {step way b : Int} {sg zg : Str} (h1 : -4 ≤ step) (h2 : step ≤ 4) (hb : b = if step < 0 then -step else step) (h3 : 0 ≤ way) (h4 : way < 4) (hs : SgP step sg) (hz : ZgP step way sg zg) : zoneOk zg b way (4200 * step) = true := by
  rcases hz with ⟨rfl, hn, ho⟩ | rfl
  · exact zone_e hn h2 hb h3 h4 ho
  rcases hs with ⟨hn, rfl⟩ | ⟨hn, rfl⟩
  · exact zone_m hn h1 hb h3 h4
  · exact zone_p hn h2 hb h3 h4
theorem hour_all {step way b : Int} {sg : Str} (h1 : -4 ≤ step) (h2 : step ≤ 4) (hb : b = if step < 0 then -step else step) (hs : SgP step sg) : tzI (sg ++ digT b ++ pick2 (Int.fmod way 2) (Str.ofString "0") (Str.ofString "")) = some (pick2 (Int.fmod way 2) 36000 3600 * step) := by
  rcases hs with ⟨hn, rfl⟩ | ⟨hn, rfl⟩
  · exact hour_m hn h1 hb
  · exact hour_p hn h2 hb
theorem zone_len {zg p : Str} {b : Int} (h : zg.length ≤ 1) (hp : p.length ≤ 3) : (zg ++ p ++ digT b ++ Str.ofString "0").length ≤ 20 := by
  have l0 : (Str.ofString "0").length ≤ 1 := by decide
  have lb : (digT b).length ≤ 1 := Nat.le_refl _
  simp only [PySem.Str.length_append]
  omega
/-- what the zones' texts tell; z the zone -/
structure ZF (sg z : Str) (b way step : Int) : Prop where
  z0 : tzI z = some (4200 * step)
  z1 : noTz (z ++ Str.ofString "x") = true
  z2 : noTz (Str.ofString "x" ++ z) = true
  z3 : tzI (sg ++ digT b ++ pick2 (Int.fmod way 2) (Str.ofString "0") (Str.ofString "")) = some (pick2 (Int.fmod way 2) 36000 3600 * step)
  z4 : noTz (Txt.lower (pick4 way (Str.ofString "GMT") (Str.ofString "UTC") (Str.ofString "UT") (Str.ofString "Z"))) = true
  z5 : zoneB (pick4 way (Str.ofString "GMT") (Str.ofString "UTC") (Str.ofString "UT") (Str.ofString "Z")) = true
theorem ZF.of {step way b : Int} {sg zg : Str} (h1 : -4 ≤ step) (h2 : step ≤ 4) (hb : b = if step < 0 then -step else step) (h3 : 0 ≤ way) (h4 : way < 4) (hs : SgP step sg) (hz : ZgP step way sg zg) : ZF sg (zoneT zg b way) b way step :=
  have z := zone_all h1 h2 hb h3 h4 hs hz
  ⟨ok0 z, ok1 z, ok2 z, hour_all h1 h2 hb hs, low_no h3 h4, up_zone h3 h4⟩
/-- a step that is left for later -/
noncomputable def Stop (P : Prop) : Prop := P
theorem Stop.out {P : Prop} (h : Stop P) : P := h
set_option maxHeartbeats 8000000 in
theorem sec_c {w : World} {mean : ExcName → Option Value} {mg mb : Str → Option Value} {news : List (Addr × Obj)} (step way : Int) (t t2 : Tok) (h1 : -4 ≤ step) (h2 : step ≤ 4) (h3 : 0 ≤ way) (h4 : way < 4) :
    Claim w mean mg mb 8 143 [.int step t, .int way t2] news (fun v tl => tl = [] ∧ ∃ t, v = .int (4200 * step) t) := by
  delta Claim; k_fill
  intro dp un gd cn cs a ccd cl outer A₀ base h₀ L m s Q E B F X N T hk hd hu hret
  walk_at "mine enter"
  k_steps
  apply Stop.out
  (rename Fr _ _ _ _ => f9); (rename News _ _ _ _ => n9)
  refine join_str (P := fun sg => sg.length ≤ 1 ∧ SgP step sg) f9 n9 ?sgn fun sg ut h' tk' F' N' hsg => ?_
  case sgn =>
    refine IfExp_ ?_
    k_steps
    · (rename Fr _ _ _ _ => f8); (rename News _ _ _ _ => n8)
      exact ⟨_, _, _, _, rfl, rfl, f8, n8, by decide, .inl ⟨by assumption, rfl⟩⟩
    · (rename Fr _ _ _ _ => f8); (rename News _ _ _ _ => n8)
      exact ⟨_, _, _, _, rfl, rfl, f8, n8, by decide, .inr ⟨by omega, rfl⟩⟩
  clear f9 n9
  obtain ⟨hsl, hsg⟩ := hsg
  k_steps
  apply Stop.out
  (rename Fr _ _ _ _ => f9); (rename News _ _ _ _ => n9); (rename (_ : Int) = ite _ _ _ => hb)
  refine join_str (P := fun z => z.length ≤ 20 ∧ ∃ b' : Int, b' = (if step < 0 then -step else step) ∧ ZF sg z b' way step) f9 n9 ?zone fun z ut3 h' tk' F' N' hz => ?_
  case zone =>
    refine wpAny_BinOp ?_
    refine wpAny_BinOp ?_
    refine wpAny_BinOp ?_
    refine join_str (P := fun zg => zg.length ≤ 1 ∧ ZgP step way sg zg) f9 n9 ?zgn fun zg ut2 h' tk' F' N' hzg => ?_
    case zgn =>
      refine IfExp_ ?_
      k_steps
      all_goals (rename Fr _ _ _ _ => f8); (rename News _ _ _ _ => n8)
      all_goals first
        | exact ⟨_, _, _, _, rfl, rfl, f8, n8, by decide, .inl ⟨rfl, by omega, by assumption⟩⟩
        | exact ⟨_, _, _, _, rfl, rfl, f8, n8, hsl, .inr rfl⟩
    clear f9 n9
    obtain ⟨hzl, hzg⟩ := hzg
    have zf := ZF.of h1 h2 hb h3 h4 hsg hzg
    k_steps
    (rename Fr _ _ _ _ => f8); (rename News _ _ _ _ => n8)
    exact ⟨_, _, _, _, rfl, rfl, f8, fun p hp => n8 p (List.mem_cons_of_mem _ hp), zone_len hzl (by with_reducible assumption), _, hb, zf⟩
  clear f9 n9
  obtain ⟨hzl, b', hb', zf⟩ := hz
  obtain rfl := hb'.trans hb.symm
  clear hb'
  clear hsg
  k_steps
  all_goals first
    | (exfalso; (rename (_ : Int) ≠ _ => q); exact q rfl)
    | (refine ret0 hret (by k_asm) (by k_asm) (by walk_at "mine sub") ⟨rfl, _, rfl⟩)
end
section
open PySem PySem.W PyProof.Rows PySem.Calls PySem.Spec
theorem words_T1 : True := by
  w_top off
  k_with_none
  k_with "mine room" => ((simp only [depth_under_make, depth_under_kw, depth_in1, depth_deeper, depth_caller, recursionLimit] at *; (try dsimp only [ktrTop] at *); omega))
  k_with "mine enter" => ((refine wpAny_call ?_; first
  | (refine' code_def ?y2k1 ?y2k2 ?y2k3 ?y2k4 ?y2k5 ?y2kA ?y2kF ?y2kK ?y2k6 ?y2k7 ?y2k8 ?y2k9 ?y2kB ?_ ?y2c2 ?y2c3 ?y2c4 ?y2c5; (case y2kA => exact rfl); (case y2kF => exact rfl); (case y2kK => first | exact rfl | assumption); (case y2k1 => k_asm); (case y2k2 => k_asm); (case y2k3 => k_asm); (case y2k4 => k_asm); (case y2k5 => k_asm); (case y2k6 => k_is); (case y2k7 => k_is); (case y2k8 => walk_at "mine room"); (case y2k9 => first | exact BindsTo.of_eq rfl | exact binds_K (by k_in) rfl (by k_is) rfl rfl rfl); (case y2c5 => decide); (case y2kB => exact locs rfl); (case y2c2 => exact rfl); (case y2c3 => exact rfl); (case y2c4 => exact rfl); k_whole; intro w9g' w9L' w9h' w9FG' w9F' w9N' w9B' w9X' w9T'; (try dsimp only); (try k_lift w9B'); (try k_fold))
  | (refine' code_defC ?y2k1 ?y2k2 ?y2k3 ?y2k4 ?y2k5 ?y2kA ?y2kF ?y2kK ?y2k6 ?y2k7 ?y2k8 ?y2k9 ?y2kB ?y2kD ?_ ?y2c2 ?y2c3 ?y2c4; (case y2kA => exact rfl); (case y2kF => exact rfl); (case y2kK => first | exact rfl | assumption); (case y2k1 => k_asm); (case y2k2 => k_asm); (case y2k3 => k_asm); (case y2k4 => k_asm); (case y2k5 => k_asm); (case y2k6 => k_is); (case y2k7 => k_is); (case y2k8 => walk_at "mine room"); (case y2k9 => first | exact BindsTo.of_eq rfl | exact binds_K (by k_in) rfl (by k_is) rfl rfl rfl); (case y2kB => exact rfl); (case y2kD => decide +kernel); (case y2c2 => exact rfl); (case y2c3 => exact rfl); (case y2c4 => exact rfl); k_whole; intro w9g' w9L' w9h' w9tk' w9cells' w9FG' w9F' w9N' w9Y' w9B' w9X' w9T' w9l1; (try k_lt w9l1); k_cells w9Y'; (try simp only [List.cons_append, List.nil_append] at w9N'); (try dsimp only); (try k_lift w9B'); (try k_fold))))
  k_with "call ref" => ((k_here; k_dflt (walk_at "mine enter")))
  k_with "execs cons" => ((k_here; (try k_gentoks); (try dsimp only); (with_reducible refine wpAny_execs_cons ?_); (try dsimp only); k_fold))
  k_with "mine bound" => (first | omega | exact Int.fmod_nonneg_of_pos _ (by decide) | exact Int.fmod_lt_of_pos _ (by decide))
  k_with "mine short" => (first | exact Nat.le_of_ble_eq_true rfl | ((try simp only [PySem.Str.length_append]); (try kopn_lits); omega))
  k_with "mine open" => ((fail_if_success (with_reducible show wpAny _ _ (subscriptTail _ (Expr.Constant _ _ _) _ _) _ _ _)))
  k_with "subscriptTail" => ((k_here; (with_reducible show wpAny _ _ (subscriptTail _ _ (Value.ref _) (Value.int _ _)) _ _ _); walk_at "mine open"; k_dflt (first
  | (refine item_pickS4 3 (by k_asm) (List.Mem.head _) (by walk_at "mine bound") (by walk_at "mine bound") (by walk_at "mine short") (by walk_at "mine short") (by walk_at "mine short") (by walk_at "mine short") ?_; intro _ _)
  | (refine item_pickS4 60 (by k_asm) (List.Mem.head _) (by walk_at "mine bound") (by walk_at "mine bound") (by walk_at "mine short") (by walk_at "mine short") (by walk_at "mine short") (by walk_at "mine short") ?_; intro _ _)
  | (refine item_pickS2 (by k_asm) (List.Mem.head _) (by walk_at "mine bound") (by walk_at "mine bound") (by walk_at "mine short") (by walk_at "mine short") ?_; intro _ _)
  | (refine item_pickI2 (by k_asm) (List.Mem.head _) (by walk_at "mine bound") (by walk_at "mine bound") ?_; intro _))))
  k_with "mine mem" => (first | exact List.Mem.head _ | (refine List.Mem.tail _ ?_; walk_at "mine mem"))
  k_with "pyIter ref" => (((with_reducible show wpAny _ _ (pyIter (Value.ref _)) (fun it s₂ => LoopAtV _ _ _ _ _ _ _ _ _ it s₂) _ _); with_unfolding_all refine iter_listUnr (by rfl) (by k_asm) (by k_asm) (by walk_at "mine mem") (by rfl) (by rfl) ?_; intro w9i' w9l1))
  k_with "UnrEnd" => ((refine unrEnd_of (by k_asm) (by k_asm) (by assumption) ⟨by walk_at "mine mem", ?_⟩))
  k_with "pyIter ref" => (((with_reducible show wpAny _ _ (pyIter (Value.ref _)) (fun it s₂ => TurnsAt _ _ _ _ _ _ _ _ _ it s₂) _ _); with_unfolding_all refine iter_listTurns (by rfl) (by k_asm) (by k_asm) (by walk_at "mine mem") (by rfl) (by rfl) ?_; intro w9i' w9l1))
  k_with "UnrEndW" => ((refine unrEndW_of (by k_asm) (by k_asm) (by assumption) ⟨⟨by walk_at "mine mem", trivial⟩, ?_⟩))
  k_with "mine sub" => ((intro w9p w9hp; first | exact w9hp | (simp only [List.mem_cons, List.mem_append] at w9hp ⊢; first | (simp only [w9hp, true_or, or_true]; done) | (rcases w9hp with w9hp | w9hp <;> simp only [w9hp, true_or, or_true] <;> done))))
  k_with "mine len" => (((have := plainL_len (by assumption) (by assumption)); (simp only [List.length_append, List.length_cons, List.length_nil]); omega))
  k_with "binaryOp Add bytes bytes" => ((k_here; first
  | (refine add_plain (by assumption) (by assumption) ?_; intro _ _)
  | (refine bytes_lists (by walk_at "mine len") ?_; intro _ _)))
  trivial
/-- as many opening, or closing, brackets -/
noncomputable def plainL (step : Int) : List UInt8 := List.replicate step.toNat 40 ++ List.replicate (-step).toNat 41
theorem flat1 (n : Nat) (x : UInt8) : (List.replicate n [x]).flatten = List.replicate n x := by
  induction n with
  | zero => rfl
  | succ n ih => rw [List.replicate_succ, List.flatten_cons, ih]; rfl
theorem plainL_len {step : Int} (h1 : -4 ≤ step) (h2 : step ≤ 4) : (plainL step).length ≤ 4 := by
  simp only [plainL, List.length_append, List.length_replicate]; omega
theorem add_plain {prog : Program} {w : World} {A : Around} {E : Value → Shared → Prop} {s : Shared} {Q : Value → Shared → Prop} {step : Int} {t u : Tok} (h1 : -4 ≤ step) (h2 : step ≤ 4)
    (h : ∀ t' k, Q (.bytes (plainL step).toArray t') { s with toks := k }) :
    wpAny (model prog w) A (binaryOp .Add (.bytes (List.replicate step.toNat [40]).flatten.toArray t) (.bytes (List.replicate (-step).toNat [41]).flatten.toArray u)) Q E s := by
  refine KBy.add_bytes ?_ fun t' k => ?_
  · rw [flat1, flat1]; simp only [List.size_toArray, List.length_replicate]; omega
  · rw [flat1, flat1, List.append_toArray]; exact h t' k
theorem bytes_lists {prog : Program} {w : World} {A : Around} {E : Value → Shared → Prop} {s : Shared} {Q : Value → Shared → Prop} {a b : List UInt8} {t u : Tok} (hz : a.length + b.length ≤ 64)
    (h : ∀ t' k, Q (.bytes (a ++ b).toArray t') { s with toks := k }) :
    wpAny (model prog w) A (binaryOp .Add (.bytes a.toArray t) (.bytes b.toArray u)) Q E s := by
  refine KBy.add_bytes ?_ fun t' k => ?_
  · simp only [List.size_toArray]; omega
  · rw [List.append_toArray]; exact h t' k

noncomputable def pieceL (step way : Int) : List UInt8 := pick4 way (92 :: 40 :: (plainL step ++ [41])) (34 :: 40 :: 40 :: 34 :: 32 :: (plainL step ++ [32, 34, 40, 34])) (plainL step ++ [34, 92, 34, 41, 41, 34]) (41 :: (plainL step ++ [34, 40]))
set_option maxHeartbeats 8000000 in
theorem piece_c {w : World} {mean : ExcName → Option Value} {mg mb : Str → Option Value} {news : List (Addr × Obj)} (step way : Int) (t1 t2 : Tok) (h1 : -4 ≤ step) (h2 : step ≤ 4) (h3 : 0 ≤ way) (h4 : way < 4) :
    Claim w mean mg mb 3 136 [.int step t1, .int way t2] news (fun v tl => tl = [] ∧ ∃ t, v = .bytes (pieceL step way).toArray t) := by
  delta Claim; k_fill
  intro dp un gd cn cs a ccd cl outer A₀ base h₀ L m s Q E B F X N T hk hd hu hret
  walk_at "mine enter"
  k_steps
  refine item_pick4 (fun (b : List UInt8) t => Value.bytes b.toArray t) (by assumption) (List.Mem.head _) h3 h4 (fun t => ?_)
  k_steps
  refine ret0 hret (by k_asm) (by k_asm) (by walk_at "mine sub") ⟨rfl, _, rfl⟩
end
section
open PySem PySem.W PyProof.Rows PySem.Calls PySem.Spec
theorem turn2a (elt tx iter ty iter2 : Expr) (ifs : List Expr) (scope : Scope) (pos : Pos) (it acc : Value) (env : Env) :
    compTurn (.ListComp elt [⟨tx, iter, [], 0⟩, ⟨ty, iter2, ifs, 0⟩] scope pos) 0 it acc env = (standAt iter.pos >>= fun _ => pyNext it >>= fun r => match r with
      | none => pure (.done .next)
      | some v => letOwnedTupleGo tx it v >>= fun _ => assign tx env v >>= fun _ =>
        (eval iter2 env >>= fun x => standAt iter2.pos >>= fun _ => foldedSetIterable iter2 env x >>= fun x => holding [x] (pyIter x) >>= fun it2 =>
          runOwn (.compStart (.ListComp elt [⟨tx, iter, [], 0⟩, ⟨ty, iter2, ifs, 0⟩] scope pos) 1 it2 acc env) env >>= fun _ =>
          again (.compLoop (.ListComp elt [⟨tx, iter, [], 0⟩, ⟨ty, iter2, ifs, 0⟩] scope pos) 0 it acc env))) := by rfl
theorem turn2b (elt tx iter ty iter2 : Expr) (ifs : List Expr) (scope : Scope) (pos : Pos) (it acc : Value) (env : Env) :
    compTurn (.ListComp elt [⟨tx, iter, [], 0⟩, ⟨ty, iter2, ifs, 0⟩] scope pos) 1 it acc env = (do
      standAt iter2.pos
      match ← pyNext it with
      | none => pure (.done .next)
      | some v =>
        letOwnedTupleGo ty it v
        assign ty env v
        let mut ok := true
        for c in ifs do
          if ok then ok ← isTrue c env (eval c env)
        if ok then
          (do let _ ← call (.builtin "list.append") [acc, ← eval elt env])
        again (.compLoop (.ListComp elt [⟨tx, iter, [], 0⟩, ⟨ty, iter2, ifs, 0⟩] scope pos) 1 it acc env)) := by rfl
section
variable {prog : Program} {w : World} {A : Around} {E : Value → Shared → Prop} {R : Result → Shared → Prop} {s : Shared}
theorem loop2b {elt tx iter ty iter2 : Expr} {ifs : List Expr} {scope : Scope} {pos : Pos} {it acc : Value} {env : Env} (I : Nat → Shared → Prop)
    (turn : ∀ n s, I n s → wpAny (model prog w) A (pyNext it) (fun r s₁ => match r with
      | none => R (.ok .next) s₁
      | some v => wpAny (model prog w) A (assign ty env v) (fun _ s₂ =>
          wpAny (model prog w) A (forIn ifs true fun c r => if r = true then do let ok ← isTrue c env (eval c env); pure (ForInStep.yield ok) else pure (ForInStep.yield r)) (fun ok s₃ =>
            if ok = true then wpAny (model prog w) A (eval elt env) (fun x s₄ =>
              wpAny (model prog w) A (call (.builtin "list.append") [acc, x]) (fun _ s₅ => ∃ m, m < n ∧ I m s₅) (notedBy (model prog w) A env fun e s' => R (.error e) s') s₄) (notedBy (model prog w) A env fun e s' => R (.error e) s') s₃
            else ∃ m, m < n ∧ I m s₃) (notedBy (model prog w) A env fun e s' => R (.error e) s') s₂) (notedBy (model prog w) A env fun e s' => R (.error e) s') s₁) (notedBy (model prog w) A env fun e s' => R (.error e) s') s)
    (n : Nat) (h : I n s) (ht : ∀ v, letOwnedTupleGo ty it v = pure ()) :
    codeAny (model prog w) A (.compLoop (.ListComp elt [⟨tx, iter, [], 0⟩, ⟨ty, iter2, ifs, 0⟩] scope pos) 1 it acc env) R s := by
  refine codeAny_loop rfl I (fun n s hI => ?_) n h
  show wpAny _ A ((compTurn (.ListComp elt [⟨tx, iter, [], 0⟩, ⟨ty, iter2, ifs, 0⟩] scope pos) 1 it acc env).onRaise (fun x => do noteFrame x env; theTreesLotGoes x)) _ _ s
  refine wpAny_noted ?_
  rw [turn2b]
  refine wpAny_bind (wpAny_standAt (wpAny_bind (wpAny_mono (turn n s hI) (fun r s₁ h₁ => ?_) fun _ _ h' => h')))
  cases r with
  | none => exact wpAny_pure h₁
  | some v =>
    refine wpAny_bind (wpAny_of_eq (ht v) ?_)
    refine wpAny_bind (wpAny_mono h₁ (fun _ s₂ h₂ => wpAny_bind (wpAny_mono h₂ (fun ok s₃ h₃ => ?_) fun _ _ h' => h')) fun _ _ h' => h')
    cases ok with
    | false => exact wpAny_pure ⟨rfl, h₃⟩
    | true =>
      exact wpAny_bind (wpAny_bind (wpAny_mono h₃ (fun x s₄ h₄ => wpAny_bind (wpAny_mono h₄ (fun _ s₅ h₅ => wpAny_pure (wpAny_pure ⟨rfl, h₅⟩)) fun _ _ h' => h')) fun _ _ h' => h'))
theorem start2b {elt tx iter ty iter2 : Expr} {ifs : List Expr} {scope : Scope} {pos : Pos} {it acc : Value} {env : Env}
    (h0 : codeAny (model prog w) A (.compLoop (.ListComp elt [⟨tx, iter, [], 0⟩, ⟨ty, iter2, ifs, 0⟩] scope pos) 1 it acc env) R s)
    (h : wpAny (model prog w) A (pyIter it) (fun it' s' => codeAny (model prog w) A (.compLoop (.ListComp elt [⟨tx, iter, [], 0⟩, ⟨ty, iter2, ifs, 0⟩] scope pos) 1 it' acc env) R s')
      (notedBy (model prog w) A env fun x s' => R (.error x) s') s) :
    codeAny (model prog w) A (.compStart (.ListComp elt [⟨tx, iter, [], 0⟩, ⟨ty, iter2, ifs, 0⟩] scope pos) 1 it acc env) R s := by
  refine codeAny_of_tree ?_
  show wpAny _ _ ((compStart (.ListComp elt [⟨tx, iter, [], 0⟩, ⟨ty, iter2, ifs, 0⟩] scope pos) 1 it acc env).onRaise (fun x => do noteFrame x env; standAt theWindowsPlace)) _ _ s
  refine wpAny_notedAt ?_
  unfold compStart
  show wpAny _ _ (ask >>= _) _ _ s
  refine wpAny_bind (wpAny_askSetting (wpAny_ite ?_))
  split
  · first
      | exact wpAny_bind (wpAny_pure (wpAny_pure (And.intro rfl h0)))
      | exact wpAny_pure (And.intro rfl h0)
  · first
      | exact wpAny_bind (wpAny_rule (wpAny_bind (wpAny_standAt (wpAny_bind (wpAny_mono h (fun it' s' h' => wpAny_pure (And.intro rfl h')) fun _ _ x => x)))))
      | (refine wpAny_bind (wpAny_rule ?_); show wpAny _ _ (standAt iter2.pos >>= _) _ _ s; exact wpAny_bind (wpAny_standAt (wpAny_bind (wpAny_mono h (fun it' s' h' => wpAny_pure (And.intro rfl h')) fun _ _ x => x))))
theorem loop2a {elt tx iter ty iter2 : Expr} {ifs : List Expr} {scope : Scope} {pos : Pos} {it acc : Value} {env : Env} (I : Nat → Shared → Prop) (hm : A.mark none = A)
    (turn : ∀ n s, I n s → ∀ E' : Value → Shared → Prop, wpAny (model prog w) A (pyNext it) (fun r s₁ => match r with
      | none => R (.ok .next) s₁
      | some v => wpAny (model prog w) A (assign tx env v) (fun _ s₂ =>
          wpAny (model prog w) A (eval iter2 env) (fun x s₃ => wpAny (model prog w) A (pyIter x) (fun it2 s₄ =>
            codeAny (model prog w) A (.compStart (.ListComp elt [⟨tx, iter, [], 0⟩, ⟨ty, iter2, ifs, 0⟩] scope pos) 1 it2 acc env) (fun r s₅ => r = .ok .next ∧ ∃ m, m < n ∧ I m s₅) s₄) E' s₃) E' s₂) E' s₁) E' s)
    (n : Nat) (h : I n s) (ht : ∀ v, letOwnedTupleGo tx it v = pure ()) (hs : ∀ x, foldedSetIterable iter2 env x = pure x) :
    codeAny (model prog w) A (.compLoop (.ListComp elt [⟨tx, iter, [], 0⟩, ⟨ty, iter2, ifs, 0⟩] scope pos) 0 it acc env) R s := by
  refine codeAny_loop rfl I (fun n s hI => ?_) n h
  show wpAny _ A ((compTurn (.ListComp elt [⟨tx, iter, [], 0⟩, ⟨ty, iter2, ifs, 0⟩] scope pos) 0 it acc env).onRaise (fun x => do noteFrame x env; theTreesLotGoes x)) _ _ s
  refine wpAny_noted ?_
  rw [turn2a]
  refine wpAny_bind (wpAny_standAt (wpAny_bind (wpAny_mono (turn n s hI _) (fun r s₁ h₁ => ?_) fun _ _ h' => h')))
  cases r with
  | none => exact wpAny_pure h₁
  | some v =>
    refine wpAny_bind (wpAny_of_eq (ht v) ?_)
    refine wpAny_bind (wpAny_mono h₁ (fun _ s₂ h₂ => wpAny_bind (wpAny_mono h₂ (fun x s₃ h₃ => wpAny_bind (wpAny_standAt (wpAny_bind (wpAny_of_eq (hs x) (wpAny_bind (wpAny_holding (wpAny_mono h₃ (fun it2 s₄ h₄ => ?_) fun _ _ h' => h'))))))) fun _ _ h' => h')) fun _ _ h' => h')
    refine wpAny_bind (wpAny_runOwn (hm.symm ▸ codeAny_mono h₄ (fun r s₅ h₅ => ?_)))
    obtain ⟨rfl, h₅⟩ := h₅
    exact wpAny_pure ⟨rfl, h₅⟩
end
end
section
open PySem PySem.W PyProof.Rows PySem.Calls PySem.Spec
open LCg
noncomputable def Off4 (I J C D : Addr) (news : List (Addr × Obj)) : Prop := ∀ p ∈ news, p.1 ≠ I ∧ p.1 ≠ J ∧ p.1 ≠ C ∧ p.1 ≠ D
inductive End4 (h₀ : Heap) (L : Addr) (m : Str → Option Value) (s : Shared) (I : Addr) (oI : Obj) (J : Addr) (oJ : Obj) (C : Addr) (oC : Obj) (D : Addr) (oD : Obj) (S : List (Addr × Obj) → Prop) (rest : Value → List (Addr × Obj) → Prop) (y : Value) (s₂ : Shared) : Prop
  | intro (h' tk news') (f1 : s₂ = { s with heap := h', toks := tk }) (f2 : Fr h₀ L h' m) (f3 : News h₀ L h' ((I, oI) :: (J, oJ) :: (C, oC) :: (D, oD) :: news')) (f4 : Off4 I J C D news') (f5 : S news') (f6 : rest y news')
noncomputable def Turn4 (prog : Program) (w : World) (A : Around) (h₀ : Heap) (L : Addr) (m : Str → Option Value) (env : Env) (ct elt : Expr) (x y : Str) (scope : Scope) (cl : List (Str × Addr)) (s : Shared) (ax : Addr) (its : Array Value) (Inv : Nat → Nat → List Value → List (Addr × Obj) → Prop) : Prop :=
  ∀ i k ys news I oI J oJ C oC D m₂ h tk (E' : Value → Shared → Prop), i < its.size → k < 4 → Inv i k ys news → SrcAt h₀ ax its news → NsObj oC m₂ → m₂ x = its[i]? → (∃ t, m₂ y = some (.int (k : Int) t)) → Fr h₀ L h m → News h₀ L h ((I, oI) :: (J, oJ) :: (C, oC) :: (D, lst ys) :: news) → Off4 I J C D news →
    (I ≠ J ∧ I ≠ C ∧ I ≠ D ∧ J ≠ C ∧ J ≠ D ∧ C ≠ D) →
      wpAny (model prog w) A (isTrue ct (compEnvC scope cl C env) (eval ct (compEnvC scope cl C env))) (fun ok s' => if ok = true then
        wpAny (model prog w) A (eval elt (compEnvC scope cl C env)) (End4 h₀ L m { s with heap := h, toks := tk } I oI J oJ C oC D (lst ys) (SrcAt h₀ ax its) (fun v news' => Inv i (k + 1) (ys ++ [v]) news')) E' s'
        else End4 h₀ L m { s with heap := h, toks := tk } I oI J oJ C oC D (lst ys) (SrcAt h₀ ax its) (fun _ news' => Inv i (k + 1) ys news') Value.none s') E' { s with heap := h, toks := tk }
noncomputable def IterEnd (h₀ : Heap) (L : Addr) (m : Str → Option Value) (s : Shared) (led : List (Addr × Obj)) (xv : Value) (s' : Shared) : Prop :=
  ∃ r h' tk' t u v, xv = .ref r ∧ s' = { s with heap := h', toks := tk' } ∧ IsRange h' r 0 4 1 t u v ∧ Fr h₀ L h' m ∧ News h₀ L h' led
noncomputable def Iter4 (prog : Program) (w : World) (A : Around) (h₀ : Heap) (L : Addr) (m : Str → Option Value) (env : Env) (iter2 : Expr) (scope : Scope) (cl : List (Str × Addr)) (s : Shared) : Prop :=
  ∀ ys news J oJ C oC D m₂ h tk (E' : Value → Shared → Prop), NsObj oC m₂ → Fr h₀ L h m → News h₀ L h ((J, oJ) :: (C, oC) :: (D, lst ys) :: news) →
    wpAny (model prog w) A (eval iter2 (compEnvC scope cl C env)) (IterEnd h₀ L m s ((J, oJ) :: (C, oC) :: (D, lst ys) :: news)) E' { s with heap := h, toks := tk }
inductive In4End (h₀ : Heap) (L : Addr) (m : Str → Option Value) (s : Shared) (J : Addr) (oJ : Obj) (C D ax : Addr) (its : Array Value) (Inv : Nat → Nat → List Value → List (Addr × Obj) → Prop) (i : Nat) (rr : Result) (s₅ : Shared) : Prop
  | intro (f0 : rr = .ok .next) (h' tk' ys' m'' news') (f1 : s₅ = { s with heap := h', toks := tk' }) (f2 : Fr h₀ L h' m) (f3 : h'.Ns C m'') (f4 : News h₀ L h' ((J, oJ) :: (D, lst ys') :: news')) (f5 : ∀ p ∈ news', p.1 ≠ J ∧ p.1 ≠ C ∧ p.1 ≠ D) (f6 : SrcAt h₀ ax its news') (f7 : Inv i 4 ys' news') (f8 : ys'.length ≤ (i + 1) * 4)
inductive In4Inv (h₀ : Heap) (L : Addr) (m : Str → Option Value) (s : Shared) (I J : Addr) (oJ : Obj) (C D ax : Addr) (its : Array Value) (Inv : Nat → Nat → List Value → List (Addr × Obj) → Prop) (i : Nat) (x : Str) (n : Nat) (s' : Shared) : Prop
  | intro (h' tk' k ys' m'' news') (f1 : s' = { s with heap := h', toks := tk' }) (f2 : k ≤ 4) (f3 : n = 4 + 1 - k) (f4 : ys'.length ≤ i * 4 + k) (f5 : IsRangeIter h' I (0 + (k : Nat) * 1) ((4 : Nat) - (k : Nat)) 1) (f6 : Fr h₀ L h' m) (f7 : h'.Ns C m'') (f8 : m'' x = its[i]?) (f9 : News h₀ L h' ((J, oJ) :: (D, lst ys') :: news')) (f10 : Off4 I J C D news') (f11 : SrcAt h₀ ax its news') (f12 : Inv i k ys' news')
section
variable {prog : Program} {w : World} {A : Around} {s : Shared} {h₀ : Heap} {L : Addr} {m : Str → Option Value} {env : Env}
theorem inner4 {elt tx iter iter2 ct : Expr} {x y : Str} {py : Pos} {scope : Scope} {cl : List (Str × Addr)} {pos : Pos} {ax : Addr} {its : Array Value} {Inv : Nat → Nat → List Value → List (Addr × Obj) → Prop}
    (hh : A.handled = none) (hkind : scope.kind = .function) (hy : scope.names.lookup y = some .local) (hxy : x ≠ y) (hsz : its.size * 4 ≤ sizeLine)
    (T : Turn4 prog w A h₀ L m env ct elt x y scope cl s ax its Inv)
    {i : Nat} {ys : List Value} {news : List (Addr × Obj)} {J : Addr} {oJ : Obj} {C D : Addr} {m' : Str → Option Value} {h : Heap} {tk : Nat} {E' : Value → Shared → Prop} {r : Addr} {t u v : Tok}
    (hi : i < its.size) (V : Inv i 0 ys news) (S : SrcAt h₀ ax its news) (F : Fr h₀ L h m) (hn : h.Ns C m') (hx : m' x = its[i]?) (N : News h₀ L h ((J, oJ) :: (D, lst ys) :: news)) (off : ∀ p ∈ news, p.1 ≠ J ∧ p.1 ≠ C ∧ p.1 ≠ D) (hne : J ≠ C ∧ J ≠ D ∧ C ≠ D)
    (hC₀ : h₀.get? C = none) (hCL : C ≠ L) (hlen : ys.length ≤ i * 4) (hr : IsRange h r 0 4 1 t u v) :
    wpAny (model prog w) A (pyIter (.ref r)) (fun it2 s₄ => codeAny (model prog w) A (.compStart (.ListComp elt [⟨tx, iter, [], 0⟩, ⟨.Name y py, iter2, [ct], 0⟩] scope pos) 1 it2 (.ref D) (compEnvC scope cl C env))
      (In4End h₀ L m s J oJ C D ax its Inv i) s₄) E' { s with heap := h, toks := tk } := by
  refine wpAny_pyIter_range hr (by decide) ?_
  generalize hI : h.objs.size = I
  have zero : Builtin.Range.rangeSize 0 4 1 = 4 := by decide
  rw [zero]
  generalize hg : h.push { cls := .type "range_iterator", data := .fields #[rawInt 0, rawInt 4, rawInt 1] } = g
  have up : ∀ b o, h.get? b = some o → g.get? b = some o := fun b o e => hg ▸ Heap.get?_push_of_some _ e
  have hgI : IsRangeIter g I 0 4 1 := by subst hg; subst hI; exact Heap.get?_push_size _ rfl
  have ltI : ∀ b o, h.get? b = some o → b ≠ I := fun b o e => by rw [← hI]; exact Nat.ne_of_lt (Heap.lt_size e)
  have hIL : L ≠ I := by rw [← hI]; exact Nat.ne_of_lt F.ns.lt
  have hI₀ : h₀.get? I = none := by
    cases e : h₀.get? I with
    | none => rfl
    | some o => exact absurd rfl (ltI I o (F.keep _ _ e))
  have hJI : J ≠ I := ltI J oJ (N _ List.mem_cons_self).1
  have hDI : D ≠ I := ltI D _ (N _ (List.mem_cons_of_mem _ List.mem_cons_self)).1
  have hCI : C ≠ I := by obtain ⟨o, e, _⟩ := ns_obj hn; exact ltI C o e
  have hDL : D ≠ L := (N _ (List.mem_cons_of_mem _ List.mem_cons_self)).2.1
  have hD₀ : h₀.get? D = none := (N _ (List.mem_cons_of_mem _ List.mem_cons_self)).2.2
  have offI : ∀ p ∈ news, p.1 ≠ I := fun p hp => ltI p.1 p.2 (N p (List.mem_cons_of_mem _ (List.mem_cons_of_mem _ hp))).1
  have W := range_walks (prog := prog) (w := w) (A := A) (I := I) hh 0 4
  have loop : codeAny (model prog w) A (.compLoop (.ListComp elt [⟨tx, iter, [], 0⟩, ⟨.Name y py, iter2, [ct], 0⟩] scope pos) 1 (.ref I) (.ref D) (compEnvC scope cl C env))
      (In4End h₀ L m s J oJ C D ax its Inv i)
      { s with heap := g, toks := tk } := by
    refine loop2b
      (In4Inv h₀ L m s I J oJ C D ax its Inv i x) ?_ (4 + 1)
      ⟨g, tk, 0, ys, m', news, rfl, Nat.zero_le _, rfl, hlen, hgI, F.keeps up, hn.at' (fun o e => up _ o e), hx, N.grown up, fun p hp => ⟨offI p hp, off p hp⟩, S, V⟩ (by intro _; rfl)
    rintro n s' ⟨h', tk', k, ys', m'', news', rfl, hk, rfl, hyl, hst', F', hn', hx', N', off', S', V'⟩
    by_cases hlt : k < 4
    · refine W.item k _ _ _ hlt hst' fun v h₂ tk₂ hPv hst₂ hk₂ => ?_
      obtain ⟨tv, rfl⟩ := hPv
      refine wpAny_assign_Name (wpAny_storeName_local (lookup_relabel_local hy) (hn'.at' fun o e => hk₂ _ o (by simpa using hCI) e) (fun h₃ hn₃ hs₃ => ?_) (by simp [compEnvC, relabel, hkind]))
      refine wpAny_tests_one ?_
      have heI : IsRangeIter h₃ I (0 + ((k + 1 : Nat) : Int) * 1) (((4 : Nat) : Int) - ((k + 1 : Nat) : Int)) 1 := hs₃.extBut _ _ (fun q => hCI (Eq.symm q)) hst₂
      obtain ⟨oC, heC, hoC⟩ := ns_obj hn₃
      have F₃ : Fr h₀ L h₃ m := (fr_but F' hk₂ hIL hI₀).change hs₃ hCL hC₀
      have N₂ : News h₀ L h₂ ((J, oJ) :: (D, lst ys') :: news') := news_but N' hk₂ fun p hp => by
        rcases List.mem_cons.mp hp with rfl | hp
        · exact hJI
        rcases List.mem_cons.mp hp with rfl | hp
        · exact hDI
        · exact (off' p hp).1
      have N₃ : News h₀ L h₃ ((I, _) :: (J, oJ) :: (C, oC) :: (D, lst ys') :: news') := fun p hp => by
        rcases List.mem_cons.mp hp with rfl | hp
        · exact ⟨heI, Ne.symm hIL, hI₀⟩
        rcases List.mem_cons.mp hp with rfl | hp
        · have z := N₂ _ List.mem_cons_self
          exact ⟨hs₃.extBut _ _ hne.1 z.1, z.2⟩
        rcases List.mem_cons.mp hp with rfl | hp
        · exact ⟨heC, hCL, hC₀⟩
        have z := N₂ p (List.mem_cons_of_mem _ hp)
        refine ⟨hs₃.extBut _ _ ?_ z.1, z.2⟩
        rcases List.mem_cons.mp hp with rfl | hp
        · exact Ne.symm hne.2.2
        · exact (off' p hp).2.2.1
      refine wpAny_mono (T i k ys' news' I _ J oJ C oC D _ h₃ _ _ hi hlt V' S' hoC (by simp only [if_neg hxy]; exact hx') ⟨tv, by simp⟩ F₃ N₃ off' ⟨Ne.symm hJI, Ne.symm hCI, Ne.symm hDI, hne.1, hne.2.1, hne.2.2⟩) (fun ok s₄ h₄ => ?_) fun _ _ e => e
      cases ok with
      | true =>
        simp only [if_true] at h₄ ⊢
        refine wpAny_mono h₄ (fun yv s₅ h₅ => ?_) fun _ _ e => e
        obtain ⟨h₄, tk₄, news₄, rfl, F₄, N₄, off₄, hS₄, R₄⟩ := h₅
        have zI := (N₄ _ List.mem_cons_self).1
        have zJ := N₄ (J, oJ) (List.mem_cons_of_mem _ List.mem_cons_self)
        have zC := (N₄ (C, oC) (List.mem_cons_of_mem _ (List.mem_cons_of_mem _ List.mem_cons_self))).1
        have zD := (N₄ (D, lst ys') (List.mem_cons_of_mem _ (List.mem_cons_of_mem _ (List.mem_cons_of_mem _ List.mem_cons_self)))).1
        have N₄' : News h₀ L h₄ news₄ := fun p hp => N₄ p (List.mem_cons_of_mem _ (List.mem_cons_of_mem _ (List.mem_cons_of_mem _ (List.mem_cons_of_mem _ hp))))
        refine append_at (hsz := by show ys'.toArray.size ≤ sizeLine; rw [List.size_toArray]; omega) zD fun h₅ hs₅ hD₅ => ?_
        refine ⟨4 + 1 - (k + 1), by omega, h₅, tk₄, k + 1, ys' ++ [yv], _, news₄, rfl, hlt, rfl, by rw [List.length_append, List.length_singleton]; omega, hs₅.extBut _ _ (Ne.symm hDI) zI, F₄.change hs₅ hDL hD₀,
          (hoC.ns zC).sameBut hs₅ hne.2.2, by simp only [if_neg hxy]; exact hx', fun p hp => ?_, off₄, hS₄, R₄⟩
        rcases List.mem_cons.mp hp with rfl | hp
        · exact ⟨hs₅.extBut _ _ hne.2.1 zJ.1, zJ.2⟩
        rcases List.mem_cons.mp hp with rfl | hp
        · exact ⟨hD₅.trans (congrArg some (lst_snoc ys' yv)), hDL, hD₀⟩
        · exact ⟨hs₅.extBut _ _ (off₄ p hp).2.2.2 (N₄' p hp).1, (N₄' p hp).2⟩
      | false =>
        simp only [Bool.false_eq_true, if_false] at h₄ ⊢
        obtain ⟨h₅, tk₄, news₄, rfl, F₄, N₄, off₄, hS₄, R₄⟩ := h₄
        have zI := (N₄ _ List.mem_cons_self).1
        have zC := (N₄ (C, oC) (List.mem_cons_of_mem _ (List.mem_cons_of_mem _ List.mem_cons_self))).1
        refine ⟨4 + 1 - (k + 1), by omega, h₅, tk₄, k + 1, ys', _, news₄, rfl, hlt, rfl, by omega, zI, F₄, hoC.ns zC, by simp only [if_neg hxy]; exact hx', fun p hp => ?_, off₄, hS₄, R₄⟩
        rcases List.mem_cons.mp hp with rfl | hp
        · exact N₄ _ (List.mem_cons_of_mem _ List.mem_cons_self)
        · exact N₄ _ (List.mem_cons_of_mem _ (List.mem_cons_of_mem _ (List.mem_cons_of_mem _ hp)))
    · obtain rfl : k = 4 := Nat.le_antisymm hk (Nat.not_lt.mp hlt)
      refine W.done _ _ _ hst' fun h₂ tk₂ hk₂ => ?_
      refine ⟨rfl, h₂, tk₂, ys', m'', news', rfl, fr_but F' hk₂ hIL hI₀, hn'.at' fun o e => hk₂ _ o (by simpa using hCI) e, news_but N' hk₂ fun p hp => ?_, fun p hp => (off' p hp).2, S', V', by omega⟩
      rcases List.mem_cons.mp hp with rfl | hp
      · exact hJI
      rcases List.mem_cons.mp hp with rfl | hp
      · exact hDI
      · exact (off' p hp).1
  exact start2b loop (W.self 0 _ _ _ (by simpa using hgI) loop)
end
end
section
open PySem PySem.W PyProof.Rows PySem.Calls PySem.Spec
open LCg
section
variable {prog : Program} {w : World} {A : Around} {E : Value → Shared → Prop} {s : Shared} {h₀ : Heap} {L : Addr} {m : Str → Option Value} {env : Env}
inductive Bl4Inv (h₀ : Heap) (L : Addr) (m : Str → Option Value) (s₂ : Shared) (J C D ax : Addr) (its : Array Value) (Inv : Nat → Nat → List Value → List (Addr × Obj) → Prop) (n : Nat) (s' : Shared) : Prop
  | intro (h' tk i ys m' news') (f1 : s' = { s₂ with heap := h', toks := tk }) (f2 : i ≤ its.size) (f3 : n = its.size + 1 - i) (f4 : ys.length ≤ i * 4) (f5 : h'.IsListIter J ax i ∧ h'.IsList ax its) (f6 : Fr h₀ L h' m) (f7 : h'.Ns C m') (f8 : News h₀ L h' ((D, lst ys) :: news')) (f9 : ∀ p ∈ news', p.1 ≠ J ∧ p.1 ≠ C ∧ p.1 ≠ D) (f10 : SrcAt h₀ ax its news') (f11 : Inv i 0 ys news')
theorem block4 {elt iter iter2 ct : Expr} {x y : Str} {px py : Pos} {scope : Scope} {cl : List (Str × Addr)} {pos : Pos} {ax : Addr} {its : Array Value} {Inv : Nat → Nat → List Value → List (Addr × Obj) → Prop} {s₂ : Shared} {J : Addr} {news : List (Addr × Obj)} {RR : Value → Addr → Result → Shared → Prop}
    (hh : A.handled = none) (hm : A.mark none = A) (hcell : ∀ y ∈ scope.names, y.2 ≠ .cell) (hkind : scope.kind = .function) (hx : scope.names.lookup x = some .local) (hy : scope.names.lookup y = some .local) (hxy : x ≠ y) (hsz : its.size * 4 ≤ sizeLine)
    (T : Turn4 prog w A h₀ L m env ct elt x y scope cl s₂ ax its Inv) (U : Iter4 prog w A h₀ L m env iter2 scope cl s₂) (hs2 : ∀ C x, foldedSetIterable iter2 (compEnvC scope cl C env) x = pure x)
    (S : SrcAt h₀ ax its news) (V : Inv 0 0 [] news) (hV : ∀ i ys news, Inv i 4 ys news → Inv (i + 1) 0 ys news)
    (hJ : s₂.heap.IsListIter J ax 0) (F : Fr h₀ L s₂.heap m) (N : News h₀ L s₂.heap news) (hJL : L ≠ J) (hJ₀ : h₀.get? J = none) (off : ∀ p ∈ news, p.1 ≠ J) (hax : ax ≠ J)
    (hRR : ∀ D C h tk m' ys news', Fr h₀ L h m → News h₀ L h ((D, lst ys) :: news') → (∀ p ∈ news', p.1 ≠ D) → h.Ns C m' → h₀.get? C = none → h₀.get? D = none → C ≠ L → D ≠ L → C ≠ D → (∀ p ∈ news', p.1 ≠ C) → Inv its.size 0 ys news' → RR (.ref D) C (.ok .next) { s₂ with heap := h, toks := tk }) :
    wpAny (model prog w) A (newList []) (fun acc s₃ => wpAny (model prog w) A (newFunctionEnv scope env.globals cl [] env.qual none .none (some env)) (fun cenv s₄ =>
      codeAny (model prog w) A (.compStart (.ListComp elt [⟨.Name x px, iter, [], 0⟩, ⟨.Name y py, iter2, [ct], 0⟩] scope pos) 0 (.ref J) acc { cenv with scope := relabel scope env }) (RR acc cenv.locals) s₄) E s₃) E s₂ := by
  refine wpAny_newObj_type (wpAny_newFunctionEnv hcell (by intro y hy; simp at hy) (fun h₁ hns₁ hsb₁ => ?_) hkind)
  dsimp only at hns₁ hsb₁ ⊢
  generalize hH2 : s₂.heap.push { cls := .type "list", dict := none, data := .seq ([] : List Value).toArray } = H2 at hns₁ hsb₁ ⊢
  generalize hCe : H2.objs.size = C at hns₁ hsb₁ ⊢
  have hC : C = s₂.heap.objs.size + 1 := by rw [← hCe, ← hH2, Heap.size_push]
  have hacc' : H2.get? s₂.heap.objs.size = some (lst []) := hH2 ▸ Heap.get?_push_size _ rfl
  have old' : ∀ b o, s₂.heap.get? b = some o → H2.get? b = some o := fun b o e => hH2 ▸ Heap.get?_push_of_some _ e
  have hFup : ∀ b o, s₂.heap.get? b = some o → b < s₂.heap.objs.size := fun b o e => Heap.lt_size e
  have hLlt : L < s₂.heap.objs.size := F.ns.lt
  have fresh : ∀ a, s₂.heap.objs.size ≤ a → h₀.get? a = none := fun a ha => by
    cases e : h₀.get? a with
    | none => rfl
    | some o' => exact absurd (hFup _ _ (F.keep a o' e)) (Nat.not_lt.mpr ha)
  generalize hDe : s₂.heap.objs.size = D at hacc' hFup hLlt fresh hC ⊢
  have hD₀ : h₀.get? D = none := fresh D (Nat.le_refl _)
  have hC₀ : h₀.get? C = none := fresh C (by omega)
  have hDL : D ≠ L := by have : L < D := hLlt; exact Ne.symm (Nat.ne_of_lt this)
  have hCD : C ≠ D := by rw [hC]; exact Nat.succ_ne_self _
  have ltC : ∀ b, b < D → b ≠ C := fun b hb => by rw [hC]; exact Nat.ne_of_lt (Nat.lt_succ_of_lt hb)
  have hCL : C ≠ L := Ne.symm (ltC L hLlt)
  have ltD : ∀ b, b < D → b ≠ D := fun b hb => Nat.ne_of_lt hb
  have old : ∀ b o, s₂.heap.get? b = some o → h₁.get? b = some o := fun b o e => hsb₁.extBut b o (ltC b (hFup b o e)) (Heap.get?_push_of_some _ (old' b o e))
  have hacc : h₁.get? D = some (lst []) := hsb₁.extBut _ _ (Ne.symm hCD) (Heap.get?_push_of_some _ hacc')
  have hl : h₁.IsList ax its := S.list (fun b o e => old b o (F.keep b o e)) (N.grown old)
  obtain ⟨oJ0, eJ0, _⟩ := id hJ
  have hJlt : J < D := hFup _ _ eJ0
  have hJ1 : h₁.IsListIter J ax 0 := hJ.at fun o e => old _ o e
  have W := Walks.list (prog := prog) (w := w) (A := A) hh J ax hax its
  have loop : ∀ s₃ : Shared, s₃ = { s₂ with heap := h₁, toks := s₂.toks + ([] : List (Str × Value)).length } →
      codeAny (model prog w) A (.compLoop (.ListComp elt [⟨.Name x px, iter, [], 0⟩, ⟨.Name y py, iter2, [ct], 0⟩] scope pos) 0 (.ref J) (.ref D) (compEnvC scope cl C env))
        (RR (.ref D) C) s₃ := by
    rintro s₃ rfl
    refine loop2a
      (Bl4Inv h₀ L m s₂ J C D ax its Inv) hm ?_ (its.size + 1)
      ⟨h₁, _, 0, [], _, news, rfl, Nat.zero_le _, rfl, Nat.le_refl _, ⟨hJ1, hl⟩, F.keeps old, hns₁, fun p hp => ?_, fun p hp => ⟨off p hp, ltC _ (hFup _ _ (N p hp).1), ltD _ (hFup _ _ (N p hp).1)⟩, S, V⟩ (by intro _; rfl) (hs2 C)
    · rintro n s' ⟨h', tk, i, ys, m', news', rfl, hi, rfl, hyl, hst', F', hn', N', off', S', V'⟩ E'
      by_cases hlt : i < its.size
      · refine W.item i _ _ _ hlt hst' fun v h₂ tk₂ hPv hst₂ hk₂ => ?_
        refine wpAny_assign_Name (wpAny_storeName_local (lookup_relabel_local hx) (hn'.at' fun o e => hk₂ _ o (by simpa using Ne.symm (ltC J hJlt)) e) (fun h₃ hn₃ hs₃ => ?_) (by simp [compEnvC, relabel, hkind]))
        have hst₃ : h₃.IsListIter J ax (i + 1) ∧ h₃.IsList ax its := ⟨hst₂.1.at fun o e => hs₃.extBut _ o (ltC J hJlt) e, S'.list (((fr_but F' hk₂ hJL hJ₀).change hs₃ hCL hC₀).keep) (fun p hp => by
          have z := (news_but N' hk₂ (fun p hp => by
            rcases List.mem_cons.mp hp with rfl | hp
            · exact Ne.symm (ltD J hJlt)
            · exact (off' p hp).1)) p (List.mem_cons_of_mem _ hp)
          exact ⟨hs₃.extBut _ _ (off' p hp).2.1 z.1, z.2⟩)⟩
        obtain ⟨oJ, heJ, hoJ⟩ := id hst₃.1
        obtain ⟨oC, heC, hoC⟩ := ns_obj hn₃
        have F₃ : Fr h₀ L h₃ m := (fr_but F' hk₂ hJL hJ₀).change hs₃ hCL hC₀
        have N₂ : News h₀ L h₂ ((D, lst ys) :: news') := news_but N' hk₂ fun p hp => by
          rcases List.mem_cons.mp hp with rfl | hp
          · exact Ne.symm (ltD J hJlt)
          · exact (off' p hp).1
        have N₃ : News h₀ L h₃ ((J, oJ) :: (C, oC) :: (D, lst ys) :: news') := fun p hp => by
          rcases List.mem_cons.mp hp with rfl | hp
          · exact ⟨heJ, Ne.symm hJL, hJ₀⟩
          rcases List.mem_cons.mp hp with rfl | hp
          · exact ⟨heC, hCL, hC₀⟩
          have z := N₂ p hp
          refine ⟨hs₃.extBut _ _ ?_ z.1, z.2⟩
          rcases List.mem_cons.mp hp with rfl | hp
          · exact Ne.symm hCD
          · exact (off' p hp).2.1
        refine wpAny_mono (U ys news' J oJ C oC D _ h₃ _ E' hoC F₃ N₃) (fun xv s₄ h₄ => ?_) fun _ _ e => e
        obtain ⟨r, h₄, tk₄, t4, u4, v4, rfl, rfl, hr4, F₄, N₄⟩ := h₄
        have zJ := (N₄ _ List.mem_cons_self).1
        have zC := (N₄ (C, oC) (List.mem_cons_of_mem _ List.mem_cons_self)).1
        refine wpAny_mono (inner4 (oJ := oJ) (C := C) (D := D) (tk := tk₄) hh hkind hy hxy hsz T hlt V' S' F₄ (hoC.ns zC) (by simp only [if_true]; exact hPv.symm) (fun p hp => ?_) off' ⟨ltC J hJlt, ltD J hJlt, hCD⟩ hC₀ hCL hyl hr4) (fun it2 s₅ h₅ => codeAny_mono h₅ fun rr s₆ h₆ => ?_) fun _ _ e => e
        · rcases List.mem_cons.mp hp with rfl | hp
          · exact N₄ _ List.mem_cons_self
          · exact N₄ _ (List.mem_cons_of_mem _ (List.mem_cons_of_mem _ hp))
        · obtain ⟨e6, h₆, tk₆, ys₆, m₆, news₆, rfl, F₆, hn₆, N₆, off₆, S₆, V₆, hyl₆⟩ := h₆
          refine ⟨e6, its.size + 1 - (i + 1), by omega, h₆, tk₆, i + 1, ys₆, m₆, news₆, rfl, hlt, rfl, hyl₆, ⟨?_, S₆.list F₆.keep fun p hp => N₆ p (List.mem_cons_of_mem _ (List.mem_cons_of_mem _ hp))⟩, F₆, hn₆, fun p hp => N₆ p (List.mem_cons_of_mem _ hp), off₆, S₆, hV _ _ _ V₆⟩
          exact ⟨oJ, (N₆ _ List.mem_cons_self).1, hoJ⟩
      · obtain rfl : i = its.size := Nat.le_antisymm hi (Nat.not_lt.mp hlt)
        refine W.done _ _ _ hst' fun h₂ tk₂ hk₂ => ?_
        exact hRR _ _ h₂ tk₂ _ ys news' (fr_but F' hk₂ hJL hJ₀) (news_but N' hk₂ fun p hp => by
          rcases List.mem_cons.mp hp with rfl | hp
          · exact Ne.symm (ltD J hJlt)
          · exact (off' p hp).1) (fun p hp => (off' p hp).2.2) (hn'.at' fun o e => hk₂ _ o (by simpa using Ne.symm (ltC J hJlt)) e) hC₀ hD₀ hCL hDL hCD (fun p hp => (off' p hp).2.1) V'
    · rcases List.mem_cons.mp hp with rfl | hp
      · exact ⟨hacc, hDL, hD₀⟩
      · exact ⟨old _ _ (N p hp).1, (N p hp).2⟩
  exact codeAny_compStart_list (loop _ rfl) (W.self 0 _ _ _ ⟨hJ1, hl⟩ (loop _ rfl))
inductive Src4 (prog : Program) (w : World) (A : Around) (h₀ : Heap) (L : Addr) (m : Str → Option Value) (env : Env) (iter2 ct elt : Expr) (x y : Str) (scope : Scope) (cl : List (Str × Addr)) (z : Str) (Q : Flow → Shared → Prop) (xv : Value) (s₁ : Shared) : Prop
  | intro (ax its news Inv) (f1 : xv = .ref ax) (f2 : A.handled = none) (f3 : A.mark none = A) (f4 : Fr h₀ L s₁.heap m) (f5 : News h₀ L s₁.heap news) (f6 : SrcAt h₀ ax its news) (f7 : its.size * 4 ≤ sizeLine) (f8 : Inv 0 0 [] news) (f9 : (∀ i ys news, Inv i 4 ys news → Inv (i + 1) 0 ys news)) (f10 : Turn4 prog w A h₀ L m env ct elt x y scope cl s₁ ax its Inv) (f11 : Iter4 prog w A h₀ L m env iter2 scope cl s₁) (f12 : ∀ D ys news h tk, Inv its.size 0 ys news → Fr h₀ L h (fun q => if q = z then some (.ref D) else m q) → News h₀ L h ((D, lst ys) :: news) → (∀ p ∈ news, p.1 ≠ D) → Q .next { s₁ with heap := h, toks := tk })
theorem assign4 {elt iter iter2 ct : Expr} {x y z : Str} {px py pz : Pos} {scope : Scope} {cl : List (Str × Addr)} {pos spos : Pos} {Q : Flow → Shared → Prop} (_ : Fr h₀ L s.heap m) (hLe : env.locals = L)
    (hsw : swapsWith (.ListComp elt [⟨.Name x px, iter, [], 0⟩, ⟨.Name y py, iter2, [ct], 0⟩] scope pos) (some (.Name z pz)) spos.line env = pure true)
    (hclos : closureFor scope env = pure cl) (hcell : ∀ z ∈ scope.names, z.2 ≠ .cell) (hkind : scope.kind = .function)
    (hnames : ∀ z ∈ scope.names, z.2 = .local → scope.names.lookup z.1 = some .local) (hx : scope.names.lookup x = some .local) (hy : scope.names.lookup y = some .local) (hxy : x ≠ y)
    (hz : env.kindOf z = some .local) (hp : (env.scope.kind == .class || (env.scope.kind == .module && env.locals != env.globals)) = false)
    (h : wpAny (model prog w) A (eval iter env) (Src4 prog w A h₀ L m env iter2 ct elt x y scope cl z Q) E s)
    (hs : ∀ x, foldedSetIterable iter env x = pure x := by intro _; rfl) (hs2 : ∀ C x, foldedSetIterable iter2 (compEnvC scope cl C env) x = pure x := by intro _ _; rfl) :
    wpAny (model prog w) A (exec (.Assign [.Name z pz] (.ListComp elt [⟨.Name x px, iter, [], 0⟩, ⟨.Name y py, iter2, [ct], 0⟩] scope pos) spos) env) Q E s := by
  subst hLe
  rw [exec_Assign_Name_used _ _ _ _ hsw]
  refine wpAny_bind (wpAny_standAt (wpAny_bind ?_))
  show wpAny _ A (do let _ ← comprehension (.ListComp elt [⟨.Name x px, iter, [], 0⟩, ⟨.Name y py, iter2, [ct], 0⟩] scope pos) scope env _ (newList []) false (eval iter env) (some (assign (.Name z pz) env))) _ _ s
  refine wpAny_bind (wpAny_mono (wpAny_comprehension_free (use := some (assign (.Name z pz) env)) (Q := fun _ s' => Q .next s') rfl hs hclos hkind hnames
    (wpAny_mono h (fun xv s₁ h₁ => ?_) fun _ _ e => e)) (fun _ s' hq => wpAny_pure (wpAny_pure hq)) fun _ _ e => e)
  obtain ⟨ax, its, news, Inv, rfl, hh, hm, F, N, S, hsz, V, hV, T, U, hQ⟩ := h₁
  have hl := S.list F.keep N
  have hlt : ax < s₁.heap.objs.size := by obtain ⟨_, e, _⟩ := hl; exact Heap.lt_size e
  refine wpAny_pyIter_list hl ?_
  have up : ∀ b o, s₁.heap.get? b = some o → (s₁.heap.push { cls := .type "list_iterator", data := .fields #[.ref ax, .int 0 0] }).get? b = some o := fun b o e => Heap.get?_push_of_some _ e
  refine block4 hh hm hcell hkind hx hy hxy hsz (J := s₁.heap.objs.size) (T : Turn4 prog w A h₀ env.locals m env ct elt x y scope cl { s₁ with heap := _ } ax its Inv) U hs2 S V hV ⟨_, Heap.get?_push_size _ rfl, rfl, rfl⟩
    (F.keeps up) (N.grown up) (Nat.ne_of_lt F.ns.lt) (next_is_new F) (fun p hp => Nat.ne_of_lt (Heap.lt_size (N p hp).1)) (Nat.ne_of_lt hlt) ?_
  intro D C h' tk m' ys news' F' N' o1 hn hC₀ hD₀ hCL hDL hCD offC fin
  show wpAny _ A (assign (.Name z pz) env (.ref D)) _ _ _
  refine wpAny_assign_Name (wpAny_storeName_local hz F'.ns (fun h₂ hn₂ hs₂ => ?_) hp)
  have hL₀ : h₀.get? env.locals = none := Heap.get?_none_of_le F'.above
  have F₂ : Fr h₀ env.locals h₂ (fun q => if q = z then some (.ref D) else m q) := ⟨hn₂, fun b o e => hs₂.extBut b o (fun q => by rw [q, hL₀] at e; cases e) (F'.keep b o e), F'.above⟩
  refine ⟨m', hn.sameBut hs₂ hCL, fun h'' hs'' => hQ D ys news' h'' _ fin (F₂.change hs'' hCL hC₀) (fun p hp => ?_) o1⟩
  have z : h₂.get? p.1 = some p.2 := hs₂.extBut _ _ (N' p hp).2.1 (N' p hp).1
  refine ⟨hs''.extBut _ _ ?_ z, (N' p hp).2⟩
  rcases List.mem_cons.mp hp with rfl | hp
  · exact Ne.symm hCD
  · exact offC p hp
end
end
section
open PySem PySem.W PyProof.Rows PySem.Calls PySem.Spec
open LCg
/-- what a loop over a range with a cell as its target has to show -/
inductive SrcC (prog : Program) (w : World) (A : Around) (h₀ : Heap) (L : Addr) (env : Env) (c : Addr) (body : List Stmt) (Q : Flow → Shared → Prop) (xv : Value) (s₁ : Shared) : Prop
  | intro (r a b t u v) (n : Nat) (m oc v₀ news) (J : Nat → (Str → Option Value) → List (Addr × Obj) → Prop) (f1 : xv = .ref r) (f2 : A.handled = none) (f3 : IsRange s₁.heap r a b 1 t u v) (f4 : Builtin.Range.small a b 1 = true) (f5 : Builtin.Range.rangeSize a b 1 = ((n : Nat) : Int)) (f6 : Fr h₀ L s₁.heap m) (f7 : News h₀ L s₁.heap ((c, oc) :: news)) (f8 : oc.data = .cell v₀) (f9 : (∀ p ∈ news, p.1 ≠ c)) (f10 : J 0 m news) (f11 : (∀ i m₁ news₁ I oI oc₁ t' h tk (E' : Value → Shared → Prop), i < n → J i m₁ news₁ → (∀ p ∈ news₁, p.1 ≠ I ∧ p.1 ≠ c) → I ≠ c → oc₁.data = .cell (some (.int (a + (i : Int)) t')) → Fr h₀ L h m₁ → News h₀ L h ((I, oI) :: (c, oc₁) :: news₁) → wpAny (model prog w) A (execs body env) (fun fl s' => (fl = .next ∨ fl = .cont) ∧ ∃ h' tk' m' news', s' = { s₁ with heap := h', toks := tk' } ∧ Fr h₀ L h' m' ∧ News h₀ L h' ((I, oI) :: (c, oc₁) :: news') ∧ (∀ p ∈ news', p.1 ≠ I ∧ p.1 ≠ c) ∧ J (i + 1) m' news') E' { s₁ with heap := h, toks := tk })) (f12 : ∀ h' tk' m' news' oc', J n m' news' → Fr h₀ L h' m' → News h₀ L h' ((c, oc') :: news') → Q .next { s₁ with heap := h', toks := tk' })
inductive CellInv (h₀ : Heap) (L : Addr) (s₁ : Shared) (n : Nat) (a : Int) (I c : Addr) (J : Nat → (Str → Option Value) → List (Addr × Obj) → Prop) (k : Nat) (s' : Shared) : Prop
  | intro (h' tk i m' news' oc' v') (f1 : s' = { s₁ with heap := h', toks := tk }) (f2 : i ≤ n) (f3 : k = n + 1 - i) (f4 : IsRangeIter h' I (a + (i : Nat) * 1) ((n : Int) - (i : Nat)) 1) (f5 : Fr h₀ L h' m') (f6 : News h₀ L h' ((c, oc') :: news')) (f7 : oc'.data = .cell v') (f8 : ∀ p ∈ news', p.1 ≠ I ∧ p.1 ≠ c) (f9 : J i m' news')
theorem For_cell {prog : Program} {w : World} {A : Around} {E : Value → Shared → Prop} {s : Shared} {h₀ : Heap} {env : Env} {x : Str} {px pos : Pos} {iter : Expr} {body : List Stmt} {c : Addr} {Q : Flow → Shared → Prop} {m0 : Str → Option Value} {L : Addr} (_ : Fr h₀ L s.heap m0) (hLe : env.locals = L)
    (hk : env.scope.kind = .function) (hl : env.kindOf x = some .cell) (hc : env.cells.lookup x = some c)
    (h : wpAny (model prog w) A (eval iter env) (SrcC prog w A h₀ L env c body Q) E s)
    (hs : ∀ x, foldedSetIterable iter env x = pure x := by intro _; rfl) :
    wpAny (model prog w) A (exec (.For (.Name x px) iter body [] pos) env) Q E s := by
  subst hLe
  refine wpAny_For (wpAny_mono h (fun xv s₁ h₁ => ?_) fun _ _ e => e) hs
  obtain ⟨r, a, b, t, u, v, n, m, oc, v₀, news, J, rfl, hh, hr, hsm, hn, F, N, hd, off, j0, step, hQ⟩ := h₁
  refine wpAny_pyIter_range hr hsm ?_
  rw [hn]
  have up : ∀ b' o, s₁.heap.get? b' = some o → (s₁.heap.push { cls := .type "range_iterator", data := .fields #[rawInt a, rawInt n, rawInt 1] }).get? b' = some o := fun b' o e => Heap.get?_push_of_some _ e
  have hgI : IsRangeIter (s₁.heap.push { cls := .type "range_iterator", data := .fields #[rawInt a, rawInt n, rawInt 1] }) s₁.heap.objs.size a n 1 := Heap.get?_push_size _ rfl
  have ltI : ∀ b' o, s₁.heap.get? b' = some o → b' ≠ s₁.heap.objs.size := fun b' o e => Nat.ne_of_lt (Heap.lt_size e)
  have hIL : env.locals ≠ s₁.heap.objs.size := Nat.ne_of_lt F.ns.lt
  have hI₀ := next_is_new F
  generalize s₁.heap.push { cls := .type "range_iterator", data := .fields #[rawInt a, rawInt n, rawInt 1] } = g at up hgI
  generalize s₁.heap.objs.size = I at ltI hIL hgI hI₀ ⊢
  have hcI : c ≠ I := ltI c oc (N _ List.mem_cons_self).1
  have hcL : c ≠ env.locals := (N _ List.mem_cons_self).2.1
  have hc₀ : h₀.get? c = none := (N _ List.mem_cons_self).2.2
  have W := range_walks (prog := prog) (w := w) (A := A) (I := I) hh a n
  refine codeAny_forLoop_any
    (CellInv h₀ env.locals s₁ n a I c J) ?_ (n + 1)
    ⟨g, s₁.toks, 0, m, news, oc, v₀, rfl, Nat.zero_le _, rfl, by simpa using hgI, F.keeps up, N.grown up, hd, fun p hp => ⟨ltI p.1 p.2 (N p (List.mem_cons_of_mem _ hp)).1, off p hp⟩, j0⟩
  rintro k s' ⟨h', tk, i, m', news', oc', v', rfl, hi, rfl, hst', F', N', hd', off', j'⟩
  by_cases hlt : i < n
  · refine W.item i _ _ _ hlt hst' fun x' h₂ tk₂ hPv hst₂ hk₂ => ?_
    obtain ⟨tv, rfl⟩ := hPv
    have N₂ : News h₀ env.locals h₂ ((c, oc') :: news') := news_but N' hk₂ fun p hp => by
      rcases List.mem_cons.mp hp with rfl | hp
      · exact hcI
      · exact (off' p hp).1
    refine wpAny_of_eq (show letOwnedTupleGo (.Name x px) (.ref I) _ = pure () from rfl) ?_
    refine wpAny_assign_Name (wpAny_storeName_cell hk hl hc ⟨oc', (N₂ _ List.mem_cons_self).1, hd'⟩ fun h₃ hv₃ hs₃ => ?_)
    obtain ⟨oc₃, ec₃, hd₃⟩ := hv₃
    have F₂ := fr_but F' hk₂ hIL hI₀
    have F₃ : Fr h₀ env.locals h₃ m' := F₂.change hs₃ hcL hc₀
    have heI : IsRangeIter h₃ I (a + ((i + 1 : Nat) : Int) * 1) ((n : Int) - ((i + 1 : Nat) : Int)) 1 := hs₃.extBut _ _ (Ne.symm hcI) hst₂
    have N₃ : News h₀ env.locals h₃ ((I, _) :: (c, oc₃) :: news') := fun p hp => by
      rcases List.mem_cons.mp hp with rfl | hp
      · exact ⟨heI, Ne.symm hIL, hI₀⟩
      rcases List.mem_cons.mp hp with rfl | hp
      · exact ⟨ec₃, hcL, hc₀⟩
      have z := N₂ p (List.mem_cons_of_mem _ hp)
      exact ⟨hs₃.extBut _ _ (off' p hp).2 z.1, z.2⟩
    refine wpAny_mono (step i m' news' I _ oc₃ _ h₃ _ _ hlt j' off' (Ne.symm hcI) hd₃ F₃ N₃) (fun fl s₄ h₄ => ?_) fun _ _ e => e
    obtain ⟨hfl, h₄, tk₄, m₄, news₄, rfl, F₄, N₄, off₄, j₄⟩ := h₄
    have z : ∃ m_1, m_1 < n + 1 - i ∧ CellInv h₀ env.locals s₁ n a I c J m_1 { s₁ with heap := h₄, toks := tk₄ } :=
      ⟨n + 1 - (i + 1), by omega, h₄, tk₄, i + 1, m₄, news₄, oc₃, _, rfl, hlt, rfl, (N₄ _ List.mem_cons_self).1, F₄, fun p hp => N₄ p (List.mem_cons_of_mem _ hp), hd₃, off₄, j₄⟩
    rcases hfl with rfl | rfl <;> exact z
  · obtain rfl : i = n := Nat.le_antisymm hi (Nat.not_lt.mp hlt)
    refine W.done _ _ _ hst' fun h₂ tk₂ hk₂ => ?_
    refine wpAny_execs_nil ?_
    exact hQ h₂ tk₂ m' news' oc' j' (fr_but F' hk₂ hIL hI₀) (news_but N' hk₂ fun p hp => by
      rcases List.mem_cons.mp hp with rfl | hp
      · exact hcI
      · exact (off' p hp).1)
end
section
open PySem PySem.W PyProof.Rows PySem.Calls PySem.Spec
open LCg
noncomputable def stepRow (t : Nat) (row : List Int) (k : Nat) : List (List Int) := if Int.fmod (Int.fdiv (row.getD t 0) (2 ^ k)) 2 = 0 then [row ++ [row.getD t 0 + 2 ^ k]] else []
noncomputable def stepAll (t : Nat) (row : List Int) : List (List Int) := (List.range 4).flatMap (stepRow t row)
noncomputable def stepR (t : Nat) (R : List (List Int)) : List (List Int) := R.flatMap (stepAll t)
noncomputable def ordR : Nat → List (List Int)
  | 0 => [[0]]
  | t + 1 => stepR t (ordR t)
noncomputable def part (t : Nat) (R : List (List Int)) (i k : Nat) : List (List Int) := stepR t (R.take i) ++ R[i]?.toList.flatMap (fun row => (List.range k).flatMap (stepRow t row))
theorem part_next {t : Nat} {R : List (List Int)} {i : Nat} : part t R i 4 = part t R (i + 1) 0 := by
  unfold part stepR
  rw [List.take_add_one, List.flatMap_append]
  have : (fun row : List Int => (List.range 0).flatMap (stepRow t row)) = fun _ => [] := by funext; rfl
  rw [this]
  have e : (R[i+1]?.toList.flatMap fun _ => ([] : List (List Int))) = [] := by cases R[i+1]? <;> rfl
  rw [e, List.append_nil]
  rfl
theorem part_all {t : Nat} {R : List (List Int)} : part t R R.length 0 = stepR t R := by
  unfold part; simp
theorem part_zero {t : Nat} {R : List (List Int)} : part t R 0 0 = [] := by
  unfold part stepR; cases R[0]? <;> rfl
theorem part_step {t : Nat} {R : List (List Int)} {i k : Nat} {row : List Int} (h : R[i]? = some row) : part t R i (k + 1) = part t R i k ++ stepRow t row k := by
  unfold part; rw [h]; simp [List.range_succ, List.flatMap_append]
/-- rows of ints on the ledger -/
noncomputable def RowsL (tl : List (Addr × Obj)) (ys : List Value) (R : List (List Int)) : Prop :=
  ys.length = R.length ∧ ∀ (j : Nat) (row : List Int), R[j]? = some row → ∃ b its n, ys[j]? = some (.ref b) ∧ (b, W.listOf its n) ∈ tl ∧ IntsAre its.toList row
theorem RowsL.nil {tl : List (Addr × Obj)} : RowsL tl [] [] := ⟨rfl, fun j row e => by simp at e⟩
theorem RowsL.snoc {tl : List (Addr × Obj)} {ys : List Value} {R : List (List Int)} {b : Addr} {its : Array Value} {n : Nat} {row : List Int} (h : RowsL tl ys R) (e : IntsAre its.toList row) : RowsL ((b, W.listOf its n) :: tl) (ys ++ [.ref b]) (R ++ [row]) := by
  refine ⟨by simp [h.1], fun j r hj => ?_⟩
  rcases Nat.lt_trichotomy j R.length with lt | eq | gt
  · rw [List.getElem?_append_left lt] at hj
    obtain ⟨b', its', n', h1, h2, h3⟩ := h.2 j r hj
    exact ⟨b', its', n', by rw [List.getElem?_append_left (by rw [h.1]; exact lt)]; exact h1, List.mem_cons_of_mem _ h2, h3⟩
  · subst eq
    rw [List.getElem?_append_right (Nat.le_refl _)] at hj
    simp at hj; subst hj
    exact ⟨b, its, n, by rw [← h.1, List.getElem?_append_right (Nat.le_refl _)]; simp, List.mem_cons_self, e⟩
  · rw [List.getElem?_append_right (Nat.le_of_lt gt)] at hj
    rw [List.getElem?_eq_none (by simp; omega)] at hj; cases hj
theorem RowsL.mono {tl tl' : List (Addr × Obj)} {ys : List Value} {R : List (List Int)} (h : RowsL tl ys R) (s : ∀ p ∈ tl, p ∈ tl') : RowsL tl' ys R :=
  ⟨h.1, fun j row e => let ⟨b, its, n, h1, h2, h3⟩ := h.2 j row e; ⟨b, its, n, h1, s _ h2, h3⟩⟩
theorem ord_len : ∀ t, t ≤ 4 → ∀ row ∈ ordR t, row.length = t + 1 := by decide +kernel
theorem ord_size : ∀ t, t ≤ 4 → (ordR t).length ≤ 24 := by decide +kernel
theorem ord_rng : ∀ t, t ≤ 4 → ∀ row ∈ ordR t, ∀ x ∈ row, 0 ≤ x ∧ x < 16 := by decide +kernel
noncomputable def InvO (t : Nat) (R : List (List Int)) (keep : List (Addr × Obj)) (i k : Nat) (ys : List Value) (news : List (Addr × Obj)) : Prop :=
  ∃ tl, news = tl ++ keep ∧ (∀ p ∈ tl, ∀ q ∈ keep, p.1 ≠ q.1) ∧ RowsL tl ys (part t R i k)
inductive JO (m0 : Str → Option Value) (keep : List (Addr × Obj)) (i : Nat) (m : Str → Option Value) (news : List (Addr × Obj)) : Prop
  | intro (a its n tl) (f1 : m = (fun y => if y = Str.ofString "rows" then some (.ref a) else m0 y)) (f2 : news = (a, W.listOf its n) :: (tl ++ keep)) (f3 : RowsL tl its.toList (ordR i))
theorem news_sub {h₀ h : Heap} {L : Addr} {all z : List (Addr × Obj)} (N : News h₀ L h all) (s : ∀ p ∈ z, p ∈ all) : News h₀ L h z := fun p hp => N p (s p hp)
theorem news_rot {h₀ h : Heap} {L a b c : Addr} {x y z : Obj} {news : List (Addr × Obj)} (N : News h₀ L h ((a, x) :: (b, y) :: (c, z) :: news)) : News h₀ L h ((c, z) :: (a, x) :: ([(b, y)] ++ news)) := news_sub N (by
  intro p hp
  simp only [List.mem_cons, List.mem_append, List.not_mem_nil, or_false] at hp ⊢
  rcases hp with hp | hp | hp | hp <;> simp [hp])
theorem up3 {α : Type} {x a b c : α} {l : List α} (h : x ∈ l) : x ∈ a :: b :: c :: l := List.mem_cons_of_mem _ (List.mem_cons_of_mem _ (List.mem_cons_of_mem _ h))
theorem up4 {α : Type} {x a b c d : α} {l : List α} (h : x ∈ l) : x ∈ a :: b :: c :: d :: l := List.mem_cons_of_mem _ (up3 h)
theorem all_cons {α : Type} {P : α → Prop} {a : α} {l : List α} (h : P a) (k : ∀ p ∈ l, P p) : ∀ p ∈ a :: l, P p := List.forall_mem_cons.mpr ⟨h, k⟩
theorem in1 {α : Type} {x a : α} {l : List α} : x ∈ a :: x :: l := List.mem_cons_of_mem _ List.mem_cons_self
theorem in2 {α : Type} {x a b : α} {l : List α} : x ∈ a :: b :: x :: l := List.mem_cons_of_mem _ in1
theorem in3 {α : Type} {x a b c : α} {l : List α} : x ∈ a :: b :: c :: x :: l := List.mem_cons_of_mem _ in2
theorem news_row {h₀ h : Heap} {L I2 J C D I c ar b : Addr} {o1 o2 o3 o4 o5 o6 o7 y : Obj} {tl2 tl news : List (Addr × Obj)} (N : News h₀ L h ((I2, o1) :: (J, o2) :: (C, o3) :: (D, o4) :: (tl2 ++ ((I, o5) :: (c, o6) :: (ar, o7) :: (tl ++ news))))) (hm : (b, y) ∈ tl) :
    News h₀ L h ((I2, o1) :: (J, o2) :: (C, o3) :: (D, o4) :: (b, y) :: (I, o5) :: (c, o6) :: (ar, o7) :: (tl2 ++ (tl ++ news))) := news_sub N
  (all_cons List.mem_cons_self (all_cons in1 (all_cons in2 (all_cons in3 (all_cons (up4 (List.mem_append_right _ (up3 (List.mem_append_left _ hm)))) (all_cons (up4 (List.mem_append_right _ List.mem_cons_self)) (all_cons (up4 (List.mem_append_right _ in1)) (all_cons (up4 (List.mem_append_right _ in2))
    fun _ hp => (List.mem_append.mp hp).elim (fun h => up4 (List.mem_append_left _ h)) (fun h => up4 (List.mem_append_right _ (up3 h)))))))))))
theorem news_back {h₀ h : Heap} {L I2 J C D I c ar b : Addr} {o1 o2 o3 o4 o5 o6 o7 y : Obj} {tl2 tl news : List (Addr × Obj)} (N : News h₀ L h ((I2, o1) :: (J, o2) :: (C, o3) :: (D, o4) :: (b, y) :: (I, o5) :: (c, o6) :: (ar, o7) :: (tl2 ++ (tl ++ news)))) :
    News h₀ L h ((I2, o1) :: (J, o2) :: (C, o3) :: (D, o4) :: (tl2 ++ ((I, o5) :: (c, o6) :: (ar, o7) :: (tl ++ news)))) := news_sub N
  (all_cons List.mem_cons_self (all_cons in1 (all_cons in2 (all_cons in3
    fun _ hp => (List.mem_append.mp hp).elim (fun h => up4 (List.mem_cons_of_mem _ (up3 (List.mem_append_left _ h)))) (fun h => up4 (List.mem_cons_of_mem _ (
      all_cons (P := fun p => p ∈ _) List.mem_cons_self (all_cons in1 (all_cons in2 fun _ hp => up3 (List.mem_append_right _ hp))) _ h)))))))
theorem news_back2 {h₀ h : Heap} {L I2 J C D I c ar b r l : Addr} {o1 o2 o3 o4 o5 o6 o7 y z u : Obj} {tl2 tl news : List (Addr × Obj)} (N : News h₀ L h ((r, z) :: (l, u) :: (I2, o1) :: (J, o2) :: (C, o3) :: (D, o4) :: (b, y) :: (I, o5) :: (c, o6) :: (ar, o7) :: (tl2 ++ (tl ++ news)))) :
    News h₀ L h ((I2, o1) :: (J, o2) :: (C, o3) :: (D, o4) :: (r, z) :: (tl2 ++ ((I, o5) :: (c, o6) :: (ar, o7) :: (tl ++ news)))) := news_sub N
  (all_cons (List.mem_cons_of_mem _ in1) (all_cons (List.mem_cons_of_mem _ in2) (all_cons (List.mem_cons_of_mem _ in3) (all_cons (up4 in1) (all_cons List.mem_cons_self
    fun _ hp => (List.mem_append.mp hp).elim (fun h => up4 (up3 (up3 (List.mem_append_left _ h)))) (fun h => up4 (up3 (
      all_cons (P := fun p => p ∈ _) List.mem_cons_self (all_cons in1 (all_cons in2 fun _ hp => up3 (List.mem_append_right _ hp))) _ h))))))))
/-- a fresh address is off the rest -/
theorem lt_back2 {I2 J C D I c ar b l r : Addr} {o1 o2 o3 o4 o5 o6 o7 y u : Obj} {tl2 tl news : List (Addr × Obj)} (lt : ∀ p ∈ ((l, u) :: (I2, o1) :: (J, o2) :: (C, o3) :: (D, o4) :: (b, y) :: (I, o5) :: (c, o6) :: (ar, o7) :: (tl2 ++ (tl ++ news)) : List (Addr × Obj)), p.1 < r) :
    (r ≠ I2 ∧ r ≠ J ∧ r ≠ C ∧ r ≠ D) ∧ ∀ q ∈ ((I, o5) :: (c, o6) :: (ar, o7) :: (tl ++ news) : List (Addr × Obj)), r ≠ q.1 := by
  refine ⟨⟨Nat.ne_of_gt (lt (I2, o1) (by simp)), Nat.ne_of_gt (lt (J, o2) (by simp)), Nat.ne_of_gt (lt (C, o3) (by simp)), Nat.ne_of_gt (lt (D, o4) (by simp))⟩, fun q hq => Nat.ne_of_gt (lt q ?_)⟩
  simp only [List.mem_cons, List.mem_append] at hq ⊢
  rcases hq with hq | hq | hq | hq | hq <;> simp [hq]
theorem add_led {prog : Program} {w : World} {A : Around} {E : Value → Shared → Prop} {s : Shared} {h₀ : Heap} {L a b : Addr} {m : Str → Option Value} {news : List (Addr × Obj)} {its its2 : Array Value} {n n2 : Nat} {Q : Value → Shared → Prop}
    (F : Fr h₀ L s.heap m) (N : News h₀ L s.heap news) (ha : (a, W.listOf its n) ∈ news) (hb : (b, W.listOf its2 n2) ∈ news)
    (h : ∀ D h', Fr h₀ L h' m → News h₀ L h' ((D, W.listOf (its.toList ++ its2.toList).toArray 0) :: news) → (∀ p ∈ news, p.1 < D) → Q (.ref D) { s with heap := h' })
    (hz : its.toList.length + its2.toList.length ≤ sizeLine) : wpAny (model prog w) A (binaryOp .Add (.ref a) (.ref b)) Q E s := by
  have ha' : s.heap.IsList a its.toList.toArray := by rw [Array.toArray_toList]; exact ⟨_, (N _ ha).1, rfl, _, rfl⟩
  have hb' : s.heap.IsList b its2.toList.toArray := by rw [Array.toArray_toList]; exact ⟨_, (N _ hb).1, rfl, _, rfl⟩
  exact add_lists F N ha' hb' (fun h' F' N' => h _ h' F' N' fun p hp => Heap.lt_size (N p hp).1) hz
theorem small1 {its : Array Value} {v : Value} (h : its.size ≤ 5) : its.toList.length + (#[v] : Array Value).toList.length ≤ sizeLine := by
  rw [Array.length_toList]
  exact Nat.le_trans (Nat.add_le_add_right h _) (by show 5 + 1 ≤ sizeLine; decide)
theorem fun_set {m0 : Str → Option Value} {x : Str} {a b : Value} : (fun q => if q = x then some a else (fun y => if y = x then some b else m0 y) q) = fun y => if y = x then some a else m0 y := by
  funext q; dsimp only; split <;> rfl
theorem rows0 {b : Addr} {tk : Tok} : RowsL [(b, W.listOf #[.int 0 tk] 0)] [.ref b] (ordR 0) := ⟨rfl, fun j row e => by
  match j, e with
  | 0, e => cases e; exact ⟨b, _, _, rfl, List.mem_cons_self, .cons 0 tk .nil⟩
  | j + 1, e => cases e⟩
theorem InvO.start {t : Nat} {R : List (List Int)} {keep : List (Addr × Obj)} : InvO t R keep 0 0 [] keep := ⟨[], rfl, (fun _ h => nomatch h), by rw [part_zero]; exact RowsL.nil⟩
theorem InvO.next {t : Nat} {R : List (List Int)} {keep : List (Addr × Obj)} (i : Nat) (ys : List Value) (news : List (Addr × Obj)) (h : InvO t R keep i 4 ys news) : InvO t R keep (i + 1) 0 ys news := by
  unfold InvO at h ⊢; rwa [part_next] at h
theorem InvO.keepRow {t : Nat} {R : List (List Int)} {keep : List (Addr × Obj)} {i k : Nat} {ys : List Value} {tl : List (Addr × Obj)} {row : List Int} (h : RowsL tl ys (part t R i k)) (d : ∀ p ∈ tl, ∀ q ∈ keep, p.1 ≠ q.1) (e : R[i]? = some row) (no : stepRow t row k = []) : InvO t R keep i (k + 1) ys (tl ++ keep) :=
  ⟨tl, rfl, d, by rw [part_step e, no, List.append_nil]; exact h⟩
theorem InvO.newRow {t : Nat} {R : List (List Int)} {keep : List (Addr × Obj)} {i k : Nat} {ys : List Value} {tl : List (Addr × Obj)} {row row' : List Int} {b : Addr} {its : Array Value} {n : Nat} (h : RowsL tl ys (part t R i k)) (d : ∀ p ∈ tl, ∀ q ∈ keep, p.1 ≠ q.1) (e : R[i]? = some row) (yes : stepRow t row k = [row']) (hi : IntsAre its.toList row') (hb : ∀ q ∈ keep, b ≠ q.1) :
    InvO t R keep i (k + 1) (ys ++ [.ref b]) ((b, W.listOf its n) :: (tl ++ keep)) :=
  ⟨(b, W.listOf its n) :: tl, rfl, fun p hp q hq => by
    rcases List.mem_cons.mp hp with rfl | hp
    · exact hb q hq
    · exact d p hp q hq, by rw [part_step e, yes]; exact h.snoc hi⟩
theorem intsAre_get : ∀ {vs : List Value} {ns : List Int}, IntsAre vs ns → ∀ (j : Nat), j < ns.length → ∃ t, vs[j]? = some (.int (ns.getD j 0) t)
  | _, _, .cons n t h, 0, _ => ⟨t, rfl⟩
  | _, _, .cons n t h, j + 1, hj => intsAre_get h j (Nat.lt_of_succ_lt_succ hj)
theorem rows_small {tl : List (Addr × Obj)} {its : Array Value} {i : Nat} (h : RowsL tl its.toList (ordR i)) (hi : i < 4) : its.size * 4 ≤ sizeLine := by
  have e : its.size = (ordR i).length := by rw [← Array.length_toList]; exact h.1
  have := ord_size i (Nat.le_of_lt hi)
  rw [e]
  exact Nat.le_trans (Nat.mul_le_mul_right 4 this) (by decide)
theorem intsAre_len : ∀ {vs : List Value} {ns : List Int}, IntsAre vs ns → vs.length = ns.length
  | _, _, .nil => rfl
  | _, _, .cons _ _ h => congrArg (· + 1) (intsAre_len h)
/-- what a row at a place is -/
theorem rows_at {tl : List (Addr × Obj)} {its : Array Value} {i j : Nat} (h : RowsL tl its.toList (ordR i)) (hi : i < 4) (hj : j < its.size) :
    ∃ row b is n t, (ordR i)[j]? = some row ∧ its[j]? = some (.ref b) ∧ (b, W.listOf is n) ∈ tl ∧ IntsAre is.toList row ∧ is[i]? = some (.int (row.getD i 0) t) ∧ 0 ≤ row.getD i 0 ∧ row.getD i 0 < 16 ∧ is.size ≤ 5 := by
  have e : its.size = (ordR i).length := by rw [← Array.length_toList]; exact h.1
  obtain ⟨row, hr⟩ : ∃ row, (ordR i)[j]? = some row := ⟨_, List.getElem?_eq_getElem (e ▸ hj)⟩
  obtain ⟨b, is, n, h1, h2, h3⟩ := h.2 j row hr
  have hm := List.mem_of_getElem? hr
  have hl := ord_len i (Nat.le_of_lt hi) row hm
  have hlt : i < row.length := by omega
  obtain ⟨t, ht⟩ := intsAre_get h3 i hlt
  have hx : row.getD i 0 ∈ row := by rw [List.getD_eq_getElem?_getD, List.getElem?_eq_getElem hlt]; exact List.getElem_mem hlt
  have hr := ord_rng i (Nat.le_of_lt hi) row hm _ hx
  refine ⟨row, b, is, n, t, by assumption, by rw [← Array.getElem?_toList]; exact h1, h2, h3, by rw [← Array.getElem?_toList]; exact ht, hr.1, hr.2, ?_⟩
  have := intsAre_len h3
  rw [← Array.length_toList, this]; omega
end
section
open PySem PySem.W PyProof.Rows PySem.Calls PySem.Spec
open LCg
theorem words_O2 : True := by
  w_top off
  k_with_none
  k_with "mine room" => ((simp only [depth_under_make, depth_under_kw, depth_in1, depth_deeper, depth_caller, recursionLimit] at *; (try dsimp only [ktrTop] at *); omega))
  k_with "mine enter" => ((refine wpAny_call ?_; first
  | (refine' code_def ?y2k1 ?y2k2 ?y2k3 ?y2k4 ?y2k5 ?y2kA ?y2kF ?y2kK ?y2k6 ?y2k7 ?y2k8 ?y2k9 ?y2kB ?_ ?y2c2 ?y2c3 ?y2c4 ?y2c5; (case y2kA => exact rfl); (case y2kF => exact rfl); (case y2kK => first | exact rfl | assumption); (case y2k1 => k_asm); (case y2k2 => k_asm); (case y2k3 => k_asm); (case y2k4 => k_asm); (case y2k5 => k_asm); (case y2k6 => k_is); (case y2k7 => k_is); (case y2k8 => walk_at "mine room"); (case y2k9 => first | exact BindsTo.of_eq rfl | exact binds_K (by k_in) rfl (by k_is) rfl rfl rfl); (case y2c5 => decide); (case y2kB => exact locs rfl); (case y2c2 => exact rfl); (case y2c3 => exact rfl); (case y2c4 => exact rfl); k_whole; intro w9g' w9L' w9h' w9FG' w9F' w9N' w9B' w9X' w9T'; (try dsimp only); (try k_lift w9B'); (try k_fold))
  | (refine' code_defC ?y2k1 ?y2k2 ?y2k3 ?y2k4 ?y2k5 ?y2kA ?y2kF ?y2kK ?y2k6 ?y2k7 ?y2k8 ?y2k9 ?y2kB ?y2kD ?_ ?y2c2 ?y2c3 ?y2c4; (case y2kA => exact rfl); (case y2kF => exact rfl); (case y2kK => first | exact rfl | assumption); (case y2k1 => k_asm); (case y2k2 => k_asm); (case y2k3 => k_asm); (case y2k4 => k_asm); (case y2k5 => k_asm); (case y2k6 => k_is); (case y2k7 => k_is); (case y2k8 => walk_at "mine room"); (case y2k9 => first | exact BindsTo.of_eq rfl | exact binds_K (by k_in) rfl (by k_is) rfl rfl rfl); (case y2kB => exact rfl); (case y2kD => decide +kernel); (case y2c2 => exact rfl); (case y2c3 => exact rfl); (case y2c4 => exact rfl); k_whole; intro w9g' w9L' w9h' w9tk' w9cells' w9FG' w9F' w9N' w9Y' w9B' w9X' w9T' w9l1; (try k_lt w9l1); k_cells w9Y'; (try simp only [List.cons_append, List.nil_append] at w9N'); (try dsimp only); (try k_lift w9B'); (try k_fold))))
  k_with "call ref" => ((k_here; k_dflt (walk_at "mine enter")))
  k_with "execs cons" => ((k_here; (try k_gentoks); (try dsimp only); (with_reducible refine wpAny_execs_cons ?_); (try dsimp only); k_fold))
  k_with "mine bound" => (first | omega | exact Int.fmod_nonneg_of_pos _ (by decide) | exact Int.fmod_lt_of_pos _ (by decide))
  k_with "mine short" => (first | exact Nat.le_of_ble_eq_true rfl | ((try simp only [PySem.Str.length_append]); (try kopn_lits); omega))
  k_with "mine open" => ((fail_if_success (with_reducible show wpAny _ _ (subscriptTail _ (Expr.Constant _ _ _) _ _) _ _ _)))
  k_with "subscriptTail" => ((k_here; (with_reducible show wpAny _ _ (subscriptTail _ _ (Value.ref _) (Value.int _ _)) _ _ _); walk_at "mine open"; k_dflt (first
  | (refine item_pickS4 3 (by k_asm) (List.Mem.head _) (by walk_at "mine bound") (by walk_at "mine bound") (by walk_at "mine short") (by walk_at "mine short") (by walk_at "mine short") (by walk_at "mine short") ?_; intro _ _)
  | (refine item_pickS4 60 (by k_asm) (List.Mem.head _) (by walk_at "mine bound") (by walk_at "mine bound") (by walk_at "mine short") (by walk_at "mine short") (by walk_at "mine short") (by walk_at "mine short") ?_; intro _ _)
  | (refine item_pickS2 (by k_asm) (List.Mem.head _) (by walk_at "mine bound") (by walk_at "mine bound") (by walk_at "mine short") (by walk_at "mine short") ?_; intro _ _)
  | (refine item_pickI2 (by k_asm) (List.Mem.head _) (by walk_at "mine bound") (by walk_at "mine bound") ?_; intro _))))
  k_with "mine mem" => (first | exact List.Mem.head _ | (refine List.Mem.tail _ ?_; walk_at "mine mem"))
  k_with "pyIter ref" => (((with_reducible show wpAny _ _ (pyIter (Value.ref _)) (fun it s₂ => LoopAtV _ _ _ _ _ _ _ _ _ it s₂) _ _); with_unfolding_all refine iter_listUnr (by rfl) (by k_asm) (by k_asm) (by walk_at "mine mem") (by rfl) (by rfl) ?_; intro w9i' w9l1))
  k_with "UnrEnd" => ((refine unrEnd_of (by k_asm) (by k_asm) (by assumption) ⟨by walk_at "mine mem", ?_⟩))
  k_with "pyIter ref" => (((with_reducible show wpAny _ _ (pyIter (Value.ref _)) (fun it s₂ => TurnsAt _ _ _ _ _ _ _ _ _ it s₂) _ _); with_unfolding_all refine iter_listTurns (by rfl) (by k_asm) (by k_asm) (by walk_at "mine mem") (by rfl) (by rfl) ?_; intro w9i' w9l1))
  k_with "UnrEndW" => ((refine unrEndW_of (by k_asm) (by k_asm) (by assumption) ⟨⟨by walk_at "mine mem", trivial⟩, ?_⟩))
  k_with "mine sub" => ((intro w9p w9hp; first | exact w9hp | (simp only [List.mem_cons, List.mem_append] at w9hp ⊢; first | (simp only [w9hp, true_or, or_true]; done) | (rcases w9hp with w9hp | w9hp <;> simp only [w9hp, true_or, or_true] <;> done))))
  k_with "subscriptTail Name Name ref int" => ((k_here; (with_reducible show wpAny _ _ (subscriptTail _ _ (Value.ref _) (Value.int (Nat.cast _) _)) _ _ _); k_dflt (refine item_at (by k_asm) (by walk_at "mine mem") (by omega) (by omega) (by with_reducible assumption) ?_)))
  k_with "binaryOp Add ref ref" => ((k_here; (with_reducible show wpAny _ _ (binaryOp _ (Value.ref _) (Value.ref _)) _ _ _); refine add_led (by k_asm) (by k_asm) (by walk_at "mine mem") (by walk_at "mine mem") ?_ (by exact small1 (by with_reducible assumption)); intro w9D' w9h' w9F' w9N' w9l1))
  trivial
set_option maxHeartbeats 8000000 in
theorem ord_c {w : World} {mean : ExcName → Option Value} {mg mb : Str → Option Value} {news : List (Addr × Obj)} :
    Claim w mean mg mb 8 160 [] news (fun v tl => ∃ a its n, v = .ref a ∧ (a, W.listOf its n) ∈ tl ∧ RowsL tl its.toList (ordR 4)) := by
  delta Claim; k_fill
  intro dp un gd cn cs a ccd cl outer A₀ base h₀ L m s Q E B F X N T hk hd hu hret
  walk_at "mine enter"
  k_steps
  (rename Fr _ _ _ _ => lF'); (with_unfolding_all refine' For_cell lF' ?k0 ?k1 ?k2 ?k3 ?_); (case k0 => exact rfl); (case k1 => exact rfl); (case k2 => exact rfl); (case k3 => exact rfl); k_whole
  k_steps
  (rename Fr _ _ _ _ => lF'); (rename News _ _ _ _ => lN')
  refine' ⟨_, 0, 4, _, _, _, 4, _, _, _, _, JO ?m0 news, rfl, rfl, ?ir, ?sm, ?rs, lF', news_rot lN', ?d, ?off, ⟨_, _, _, _, rfl, rfl, rows0⟩, ?step, ?fin⟩
  case ir => with_reducible assumption
  case sm => decide
  case rs => decide
  case d => with_reducible assumption
  case off =>
    intro p hp
    simp only [List.mem_cons, List.mem_append, List.not_mem_nil, or_false] at hp
    rcases hp with rfl | rfl | hp
    · have q := ‹_ ∧ _ ∧ AllLt _ _›; exact Nat.ne_of_gt q.2.1
    · have q := ‹(_ : Nat) + 1 < _ ∧ AllLt _ _›; exact Nat.ne_of_gt q.1
    · have q := ‹∀ p ∈ news, _›; exact Nat.ne_of_lt (Nat.lt_succ_of_lt (q p hp))
  case fin =>
    intro h9 tk9 m9 news9 oc9 hJ F9 N9
    obtain ⟨ar, its, n, tl, rfl, rfl, hR⟩ := hJ
    show wpAny _ _ _ _ _ _
    k_steps
    (rename Fr _ _ _ _ => f9); (rename News _ _ _ _ => n9)
    refine hret _ ((ar, W.listOf its n) :: tl) _ _ f9 (news_sub n9 fun p hp => ?_) ⟨ar, its, n, rfl, List.mem_cons_self, hR.mono fun p hp => List.mem_cons_of_mem _ hp⟩
    exact List.mem_cons_of_mem _ (by simpa using hp)
  case step =>
    intro i m₁ news₁ I oI oc₁ t' h' tk' E' hi hJ off' hIc hoc F' N'
    obtain ⟨ar, its, n, tl, rfl, rfl, hR⟩ := hJ
    k_steps
    (rename Fr _ _ _ _ => lF'); (with_unfolding_all refine' assign4 lF' (by rfl) (by with_unfolding_all rfl) (by with_unfolding_all rfl) (by decide) (by rfl) (by decide) (by rfl) (by rfl) (by decide) (by rfl) (by rfl) ?_); k_whole
    k_steps
    (rename Fr _ _ _ _ => lF'); (rename News _ _ _ _ => lN')
    refine' ⟨ar, its, _, InvO i (ordR i) _, rfl, rfl, rfl, lF', lN', .inr ⟨W.listOf its n, List.mem_cons_of_mem _ (List.mem_cons_of_mem _ List.mem_cons_self), rfl, n, rfl⟩, rows_small hR hi, InvO.start, InvO.next, ?T, ?U, ?fin⟩
    case U =>
      intro ys2 news2 J oJ C oC D m₂ h2 tk2 E2 hC2 F2 N2
      k_steps
      (rename Fr _ _ _ _ => f9); (rename News _ _ _ _ => n9); (rename IsRange _ _ _ _ _ _ _ _ => r9)
      exact ⟨_, _, _, _, _, _, rfl, rfl, r9, f9, n9⟩
    case fin =>
      intro D ys2 news2 h2 tk2 hV2 F2 N2 hD2
      obtain ⟨tl2, rfl, hdis, hrows⟩ := hV2
      refine wpAny_execs_nil ⟨.inl rfl, h2, tk2, _, (D, lst ys2) :: (tl2 ++ news), rfl, F2, news_sub N2 ?_, ?_, ⟨D, ys2.toArray, ys2.length, tl2, fun_set, rfl, ?_⟩⟩
      · intro p hp
        simp only [List.mem_cons, List.mem_append] at hp ⊢
        rcases hp with hp | hp | hp | hp | hp <;> simp [hp]
      · intro p hp
        simp only [List.mem_cons, List.mem_append] at hp
        rcases hp with rfl | hp | hp
        · exact ⟨Ne.symm (hD2 (I, oI) (by simp)), Ne.symm (hD2 (_, oc₁) (by simp))⟩
        · exact ⟨hdis p hp (I, oI) (by simp), hdis p hp (_, oc₁) (by simp)⟩
        · exact off' p (by simp [hp])
      · have e : its.size = (ordR i).length := by rw [← Array.length_toList]; exact hR.1
        rw [e, part_all] at hrows
        exact hrows
    case T =>
      intro i2 k ys2 news2 I2 oI2 J oJ C oC D m₂ h2 tk2 E2 hi2 hk2 hV2 S2 hC2 hx2 hy2 F2 N2 off2 ne2
      obtain ⟨row, b, is, nb, tb, hrow, hits, hmem, hints, hat, hx0, hx1, hsz⟩ := rows_at hR hi hi2
      rw [hits] at hx2
      obtain ⟨ty, hy2⟩ := hy2
      obtain ⟨tl2, rfl, hdis, hrows⟩ := hV2
      replace N2 := news_row N2 hmem
      simp only [Int.zero_add] at hoc
      replace hat : is[((i : Nat) : Int).toNat]? = some (.int (row.getD i 0) tb) := hat
      generalize hx : row.getD i 0 = x at hat hx0 hx1
      have hk3 : k = 0 ∨ k = 1 ∨ k = 2 ∨ k = 3 := by omega
      rcases hk3 with rfl | rfl | rfl | rfl
      · replace hy2 : m₂ (Str.ofString "k") = some (.int 0 ty) := hy2
        k_steps
        · rename ((_ : Int) = _) => yes
          (rename Fr _ _ _ _ => f9); (rename News _ _ _ _ => n9); (rename ∀ p ∈ _, _ < _ => lt9)
          have lt8 := lt_back2 lt9
          refine ⟨_, _, _, rfl, f9, news_back2 n9, fun p hp => ?_, ?_, InvO.newRow hrows hdis hrow (row' := row ++ [x + 2 ^ 0]) ?_ (IntsAre.append hints (.cons _ _ .nil)) lt8.2⟩
          · rcases List.mem_cons.mp hp with rfl | hp
            · exact lt8.1
            · exact off2 p hp
          · rcases S2 with S2 | ⟨o, S2, S3⟩
            · exact .inl S2
            · exact .inr ⟨o, List.mem_cons_of_mem _ S2, S3⟩
          · unfold stepRow; rw [hx]; exact if_pos yes
        · rename ((_ : Int) ≠ _) => no
          (rename Fr _ _ _ _ => f9); (rename News _ _ _ _ => n9)
          exact ⟨_, _, _, rfl, f9, news_back n9, off2, S2, InvO.keepRow hrows hdis hrow (by unfold stepRow; rw [hx]; exact if_neg no)⟩
      · replace hy2 : m₂ (Str.ofString "k") = some (.int 1 ty) := hy2
        k_steps
        · rename ((_ : Int) = _) => yes
          (rename Fr _ _ _ _ => f9); (rename News _ _ _ _ => n9); (rename ∀ p ∈ _, _ < _ => lt9)
          have lt8 := lt_back2 lt9
          refine ⟨_, _, _, rfl, f9, news_back2 n9, fun p hp => ?_, ?_, InvO.newRow hrows hdis hrow (row' := row ++ [x + 2 ^ 1]) ?_ (IntsAre.append hints (.cons _ _ .nil)) lt8.2⟩
          · rcases List.mem_cons.mp hp with rfl | hp
            · exact lt8.1
            · exact off2 p hp
          · rcases S2 with S2 | ⟨o, S2, S3⟩
            · exact .inl S2
            · exact .inr ⟨o, List.mem_cons_of_mem _ S2, S3⟩
          · unfold stepRow; rw [hx]; exact if_pos yes
        · rename ((_ : Int) ≠ _) => no
          (rename Fr _ _ _ _ => f9); (rename News _ _ _ _ => n9)
          exact ⟨_, _, _, rfl, f9, news_back n9, off2, S2, InvO.keepRow hrows hdis hrow (by unfold stepRow; rw [hx]; exact if_neg no)⟩
      · replace hy2 : m₂ (Str.ofString "k") = some (.int 2 ty) := hy2
        k_steps
        · rename ((_ : Int) = _) => yes
          (rename Fr _ _ _ _ => f9); (rename News _ _ _ _ => n9); (rename ∀ p ∈ _, _ < _ => lt9)
          have lt8 := lt_back2 lt9
          refine ⟨_, _, _, rfl, f9, news_back2 n9, fun p hp => ?_, ?_, InvO.newRow hrows hdis hrow (row' := row ++ [x + 2 ^ 2]) ?_ (IntsAre.append hints (.cons _ _ .nil)) lt8.2⟩
          · rcases List.mem_cons.mp hp with rfl | hp
            · exact lt8.1
            · exact off2 p hp
          · rcases S2 with S2 | ⟨o, S2, S3⟩
            · exact .inl S2
            · exact .inr ⟨o, List.mem_cons_of_mem _ S2, S3⟩
          · unfold stepRow; rw [hx]; exact if_pos yes
        · rename ((_ : Int) ≠ _) => no
          (rename Fr _ _ _ _ => f9); (rename News _ _ _ _ => n9)
          exact ⟨_, _, _, rfl, f9, news_back n9, off2, S2, InvO.keepRow hrows hdis hrow (by unfold stepRow; rw [hx]; exact if_neg no)⟩
      · replace hy2 : m₂ (Str.ofString "k") = some (.int 3 ty) := hy2
        k_steps
        · rename ((_ : Int) = _) => yes
          (rename Fr _ _ _ _ => f9); (rename News _ _ _ _ => n9); (rename ∀ p ∈ _, _ < _ => lt9)
          have lt8 := lt_back2 lt9
          refine ⟨_, _, _, rfl, f9, news_back2 n9, fun p hp => ?_, ?_, InvO.newRow hrows hdis hrow (row' := row ++ [x + 2 ^ 3]) ?_ (IntsAre.append hints (.cons _ _ .nil)) lt8.2⟩
          · rcases List.mem_cons.mp hp with rfl | hp
            · exact lt8.1
            · exact off2 p hp
          · rcases S2 with S2 | ⟨o, S2, S3⟩
            · exact .inl S2
            · exact .inr ⟨o, List.mem_cons_of_mem _ S2, S3⟩
          · unfold stepRow; rw [hx]; exact if_pos yes
        · rename ((_ : Int) ≠ _) => no
          (rename Fr _ _ _ _ => f9); (rename News _ _ _ _ => n9)
          exact ⟨_, _, _, rfl, f9, news_back n9, off2, S2, InvO.keepRow hrows hdis hrow (by unfold stepRow; rw [hx]; exact if_neg no)⟩
end
section
open PySem PySem.W PyProof.Rows PySem.Calls PySem.Spec
open LCg
/-- a turn's end -/
inductive LoopEnd (h₀ : Heap) (L : Addr) (s₁ : Shared) (I : Addr) (oI : Obj) (J : (Str → Option Value) → List (Addr × Obj) → Prop) (fl : Flow) (s' : Shared) : Prop
  | intro (f1 : (fl = .next ∨ fl = .cont)) (h' tk' m' news') (f2 : s' = { s₁ with heap := h', toks := tk' }) (f3 : Fr h₀ L h' m') (f4 : News h₀ L h' ((I, oI) :: news')) (f5 : (∀ p ∈ news', p.1 ≠ I)) (f6 : J m' news')
/-- what a loop over a range with a local target has to show -/
inductive SrcR1 (prog : Program) (w : World) (A : Around) (h₀ : Heap) (L : Addr) (env : Env) (x : Str) (body : List Stmt) (Q : Flow → Shared → Prop) (xv : Value) (s₁ : Shared) : Prop
  | intro (r a b t u v) (n : Nat) (m news) (J : Nat → (Str → Option Value) → List (Addr × Obj) → Prop) (f1 : xv = .ref r) (f2 : A.handled = none) (f3 : IsRange s₁.heap r a b 1 t u v) (f4 : Builtin.Range.small a b 1 = true) (f5 : Builtin.Range.rangeSize a b 1 = ((n : Nat) : Int)) (f6 : Fr h₀ L s₁.heap m) (f7 : News h₀ L s₁.heap news) (f8 : J 0 m news) (f9 : (∀ i m₁ news₁ I oI t' h tk (E' : Value → Shared → Prop), i < n → J i m₁ news₁ → (∀ p ∈ news₁, p.1 ≠ I) → Fr h₀ L h (fun y => if y = x then some (.int (a + (i : Int)) t') else m₁ y) → News h₀ L h ((I, oI) :: news₁) → wpAny (model prog w) A (execs body env) (LoopEnd h₀ L s₁ I oI (J (i + 1))) E' { s₁ with heap := h, toks := tk })) (f10 : ∀ h' tk' m' news', J n m' news' → Fr h₀ L h' m' → News h₀ L h' news' → Q .next { s₁ with heap := h', toks := tk' })
/-- over a list of the ledger -/
inductive SrcL1 (prog : Program) (w : World) (A : Around) (h₀ : Heap) (L : Addr) (env : Env) (x : Str) (body : List Stmt) (Q : Flow → Shared → Prop) (xv : Value) (s₁ : Shared) : Prop
  | intro (ax its m news) (J : Nat → (Str → Option Value) → List (Addr × Obj) → Prop) (f1 : xv = .ref ax) (f2 : A.handled = none) (f3 : Fr h₀ L s₁.heap m) (f4 : News h₀ L s₁.heap news) (f5 : (∀ i m news, J i m news → SrcAt h₀ ax its news)) (f6 : J 0 m news) (f7 : (∀ i v m₁ news₁ I oI h tk (E' : Value → Shared → Prop), its[i]? = some v → J i m₁ news₁ → (∀ p ∈ news₁, p.1 ≠ I) → Fr h₀ L h (fun y => if y = x then some v else m₁ y) → News h₀ L h ((I, oI) :: news₁) → wpAny (model prog w) A (execs body env) (LoopEnd h₀ L s₁ I oI (J (i + 1))) E' { s₁ with heap := h, toks := tk })) (f8 : ∀ h' tk' m' news', J its.size m' news' → Fr h₀ L h' m' → News h₀ L h' news' → Q .next { s₁ with heap := h', toks := tk' })
inductive LoopInv (h₀ : Heap) (L : Addr) (s₁ : Shared) (n : Nat) (St : Nat → Heap → Prop) (I : Addr) (J : Nat → (Str → Option Value) → List (Addr × Obj) → Prop) (k : Nat) (s' : Shared) : Prop
  | intro (h' tk i m' news') (f1 : s' = { s₁ with heap := h', toks := tk }) (f2 : i ≤ n) (f3 : k = n + 1 - i) (f4 : St i h') (f5 : Fr h₀ L h' m') (f6 : News h₀ L h' news') (f7 : ∀ p ∈ news', p.1 ≠ I) (f8 : J i m' news')
section
variable {prog : Program} {w : World} {A : Around} {E : Value → Shared → Prop} {s : Shared} {h₀ : Heap} {L : Addr} {env : Env} {x : Str} {px pos : Pos} {iter : Expr} {body : List Stmt} {Q : Flow → Shared → Prop} {m0 : Str → Option Value}
theorem loop_any {I : Addr} {fp : List Addr} {n : Nat} {P : Nat → Value → Prop} {St : Nat → Heap → Prop} {J : Nat → (Str → Option Value) → List (Addr × Obj) → Prop} {s₁ : Shared} {g : Heap} {m : Str → Option Value} {news : List (Addr × Obj)} {R : Result → Shared → Prop} {tk₀ : Nat}
    (W : Walks prog w A I fp [I] n P St) (hLf : L ∉ fp) (hIo : ∀ i h, St i h → ∃ o, h.get? I = some o)
    (hSt : ∀ i h h' m' nw o, St i h → h.get? I = some o → h'.get? I = some o → Fr h₀ L h' m' → News h₀ L h' nw → J i m' nw → St i h') (hLe : env.locals = L)
    (hx : env.kindOf x = some .local) (hp : (env.scope.kind == .class || (env.scope.kind == .module && env.locals != env.globals)) = false)
    (hst : St 0 g) (F : Fr h₀ L g m) (N : News h₀ L g news) (hIL : L ≠ I) (hI₀ : h₀.get? I = none) (off : ∀ p ∈ news, p.1 ≠ I) (j0 : J 0 m news)
    (step : ∀ i v m₁ news₁ I oI h tk (E' : Value → Shared → Prop), i < n → P i v → J i m₁ news₁ → (∀ p ∈ news₁, p.1 ≠ I) → Fr h₀ L h (fun y => if y = x then some v else m₁ y) → News h₀ L h ((I, oI) :: news₁) →
      wpAny (model prog w) A (execs body env) (LoopEnd h₀ L s₁ I oI (J (i + 1))) E' { s₁ with heap := h, toks := tk })
    (hQ : ∀ h' tk' m' news', J n m' news' → Fr h₀ L h' m' → News h₀ L h' news' → R (.ok .next) { s₁ with heap := h', toks := tk' })
    (hSt' : ∀ i h h', St i h → (∀ b o, b ≠ L → h.get? b = some o → h'.get? b = some o) → St i h') (ht : ∀ v, letOwnedTupleGo (.Name x px) (.ref I) v = pure () := by intro _; rfl) :
    codeAny (model prog w) A (.forLoop (.Name x px) (.ref I) body [] env) R { s₁ with heap := g, toks := tk₀ } := by
  subst hLe
  refine codeAny_forLoop_any
    (LoopInv h₀ env.locals s₁ n St I J) ?_ (n + 1)
    ⟨g, tk₀, 0, m, news, rfl, Nat.zero_le _, rfl, hst, F, N, off, j0⟩
  rintro k s' ⟨h', tk, i, m', news', rfl, hi, rfl, hst', F', N', off', j'⟩
  by_cases hlt : i < n
  · refine W.item i _ _ _ hlt hst' fun x' h₂ tk₂ hPv hst₂ hk₂ => ?_
    have N₂ : News h₀ env.locals h₂ news' := news_but N' hk₂ off'
    have F₂ := fr_but F' hk₂ hIL hI₀
    refine wpAny_of_eq (ht x') ?_
    refine wpAny_assign_Name (wpAny_storeName_local hx F₂.ns (fun h₃ hn₃ hs₃ => ?_) hp)
    have F₃ := F₂.set hn₃ hs₃
    have N₃ : News h₀ env.locals h₃ news' := N₂.set hs₃
    have hst₃ : St (i + 1) h₃ := hSt' _ _ _ hst₂ fun b o hb e => hs₃.extBut b o hb e
    obtain ⟨oI, heI⟩ := hIo _ _ hst₃
    have N₄ : News h₀ env.locals h₃ ((I, oI) :: news') := fun p hp => by
      rcases List.mem_cons.mp hp with rfl | hp
      · exact ⟨heI, Ne.symm hIL, hI₀⟩
      · exact N₃ p hp
    refine wpAny_mono (step i x' m' news' I oI h₃ _ _ hlt hPv j' off' F₃ N₄) (fun fl s₄ h₄ => ?_) fun _ _ e => e
    obtain ⟨hfl, h₄, tk₄, m₄, news₄, rfl, F₄, N₄, off₄, j₄⟩ := h₄
    have z : ∃ m_1, m_1 < n + 1 - i ∧ LoopInv h₀ env.locals s₁ n St I J m_1 { s₁ with heap := h₄, toks := tk₄ } :=
      ⟨n + 1 - (i + 1), by omega, h₄, tk₄, i + 1, m₄, news₄, rfl, hlt, rfl, hSt _ _ _ _ _ _ hst₃ heI (N₄ _ List.mem_cons_self).1 F₄ (fun p hp => N₄ p (List.mem_cons_of_mem _ hp)) j₄, F₄, fun p hp => N₄ p (List.mem_cons_of_mem _ hp), off₄, j₄⟩
    rcases hfl with rfl | rfl <;> exact z
  · obtain rfl : i = n := Nat.le_antisymm hi (Nat.not_lt.mp hlt)
    refine W.done _ _ _ hst' fun h₂ tk₂ hk₂ => ?_
    refine wpAny_execs_nil ?_
    exact hQ h₂ tk₂ m' news' j' (fr_but F' hk₂ hIL hI₀) (news_but N' hk₂ off')
theorem For_range1 (_ : Fr h₀ L s.heap m0) (hLe : env.locals = L) (hx : env.kindOf x = some .local) (hp : (env.scope.kind == .class || (env.scope.kind == .module && env.locals != env.globals)) = false)
    (h : wpAny (model prog w) A (eval iter env) (SrcR1 prog w A h₀ L env x body Q) E s)
    (hs : ∀ x, foldedSetIterable iter env x = pure x := by intro _; rfl) :
    wpAny (model prog w) A (exec (.For (.Name x px) iter body [] pos) env) Q E s := by
  refine wpAny_For (wpAny_mono h (fun xv s₁ h₁ => ?_) fun _ _ e => e) hs
  obtain ⟨r, a, b, t, u, v, n, m, news, J, rfl, hh, hr, hsm, hn, F, N, j0, step, hQ⟩ := h₁
  refine wpAny_pyIter_range hr hsm ?_
  rw [hn]
  have up : ∀ b' o, s₁.heap.get? b' = some o → (s₁.heap.push { cls := .type "range_iterator", data := .fields #[rawInt a, rawInt n, rawInt 1] }).get? b' = some o := fun b' o e => Heap.get?_push_of_some _ e
  refine loop_any (J := J) (range_walks (prog := prog) (w := w) (A := A) (I := s₁.heap.objs.size) hh a n) (by simpa using (Nat.ne_of_lt F.ns.lt)) (fun i h st => ⟨_, st⟩) (fun i h h' m' nw o st e e' _ _ _ => ?_) hLe hx hp (by simpa using Heap.get?_push_size _ rfl) (F.keeps up) (N.grown up) (Nat.ne_of_lt F.ns.lt) (next_is_new F)
    (fun p hp => Nat.ne_of_lt (Heap.lt_size (N p hp).1)) j0 (fun i v m₁ news₁ I oI h tk E' hi hP j o F N => ?_) hQ (fun i h h' st k => k _ _ (Ne.symm (Nat.ne_of_lt F.ns.lt)) st)
  · have st' : h.get? s₁.heap.objs.size = some _ := st
    show h'.get? s₁.heap.objs.size = some _
    rw [e', ← e]; exact st'
  · obtain ⟨t', rfl⟩ := hP
    exact step i m₁ news₁ I oI t' h tk E' hi j o F N
theorem For_list1 (_ : Fr h₀ L s.heap m0) (hLe : env.locals = L) (hx : env.kindOf x = some .local) (hp : (env.scope.kind == .class || (env.scope.kind == .module && env.locals != env.globals)) = false)
    (h : wpAny (model prog w) A (eval iter env) (SrcL1 prog w A h₀ L env x body Q) E s)
    (hs : ∀ x, foldedSetIterable iter env x = pure x := by intro _; rfl) :
    wpAny (model prog w) A (exec (.For (.Name x px) iter body [] pos) env) Q E s := by
  refine wpAny_For (wpAny_mono h (fun xv s₁ h₁ => ?_) fun _ _ e => e) hs
  obtain ⟨ax, its, m, news, J, rfl, hh, F, N, hS, j0, step, hQ⟩ := h₁
  have hl := (hS _ _ _ j0).list F.keep N
  have hlt : ax < s₁.heap.objs.size := by obtain ⟨_, e, _⟩ := hl; exact Heap.lt_size e
  have hLlt : L < s₁.heap.objs.size := F.ns.lt
  have haL : ax ≠ L := by
    rcases hS _ _ _ j0 with ⟨o, e, _⟩ | ⟨o, hm, _⟩
    · intro q; rw [q, Heap.get?_none_of_le F.above] at e; cases e
    · exact (N _ hm).2.1
  refine wpAny_pyIter_list hl ?_
  have up : ∀ b' o, s₁.heap.get? b' = some o → (s₁.heap.push { cls := .type "list_iterator", data := .fields #[.ref ax, .int 0 0] }).get? b' = some o := fun b' o e => Heap.get?_push_of_some _ e
  refine loop_any (J := J) (Walks.list (prog := prog) (w := w) (A := A) hh s₁.heap.objs.size ax (Nat.ne_of_lt hlt) its) (fun hm => ?_) (fun i h st => by obtain ⟨o, e, _⟩ := st.1; exact ⟨o, e⟩) (fun i h h' m' nw o st e e' F' N' j' => ⟨?_, (hS _ _ _ j').list F'.keep N'⟩) hLe hx hp ⟨⟨_, Heap.get?_push_size _ rfl, rfl, rfl⟩, hl.push _⟩ (F.keeps up) (N.grown up) (Nat.ne_of_lt F.ns.lt) (next_is_new F)
    (fun p hp => Nat.ne_of_lt (Heap.lt_size (N p hp).1)) j0 (fun i v m₁ news₁ I oI h tk E' hi hP j o F N => step i v m₁ news₁ I oI h tk E' hP j o F N) hQ (fun i h h' st k => ⟨st.1.at fun o e => k _ _ (Ne.symm (Nat.ne_of_lt hLlt)) e, st.2.at fun o e => k _ _ haL e⟩)
  · rcases List.mem_cons.mp hm with hm | hm
    · exact Nat.ne_of_lt hLlt hm
    · exact haL (Eq.symm (List.mem_singleton.mp hm))
  · obtain ⟨o2, q, r⟩ := st.1
    rw [e] at q; cases q; exact ⟨o, e', r⟩
end
end
section
open PySem PySem.W PyProof.Rows PySem.Calls PySem.Spec
theorem m_is1 {m : Str → Option Value} {x : Str} {v : Value} (h : m x = some v) : ∃ m2 : Str → Option Value, m = fun y => if y = x then some v else m2 y :=
  ⟨m, by funext y; split; · (rename y = x => e); rw [e, h]
         rfl⟩
theorem m_is2 {m : Str → Option Value} {x z : Str} {v u : Value} (h : m x = some v) (h2 : m z = some u) : ∃ m2 : Str → Option Value, m = fun y => if y = x then some v else if y = z then some u else m2 y := by
  obtain ⟨m2, e⟩ := m_is1 h2
  refine ⟨m2, ?_⟩
  funext y
  split
  · rename y = x => q; rw [q, h]
  · rw [e]
noncomputable def growRow (k : Nat) (rings : List (Int × Int)) : List (List (Int × Int)) :=
  (rings ++ [(2 ^ k, 1)]) :: (List.range rings.length).flatMap fun place => List.replicate (rings.getD place (0, 0)).2.toNat (rings.take place ++ [((rings.getD place (0, 0)).1 + 2 ^ k, (rings.getD place (0, 0)).2 + 1)] ++ rings.drop (place + 1))
noncomputable def ringR : Nat → List (List (Int × Int))
  | 0 => [[]]
  | k + 1 => (ringR k).flatMap (growRow k)
noncomputable abbrev tup2 (a b : Int) (t u : Tok) : Obj := { cls := .type "tuple", data := .seq #[.int a t, .int b u] 0 }
/-- a list of pairs on the ledger -/
noncomputable def TupsL (tl : List (Addr × Obj)) : List Value → List (Int × Int) → Prop
  | [], [] => True
  | v :: vs, r :: rs => (∃ b t u, v = .ref b ∧ (b, tup2 r.1 r.2 t u) ∈ tl) ∧ TupsL tl vs rs
  | _, _ => False
theorem TupsL.mono {tl tl' : List (Addr × Obj)} (s : ∀ p ∈ tl, p ∈ tl') : ∀ {vs : List Value} {rs : List (Int × Int)}, TupsL tl vs rs → TupsL tl' vs rs
  | [], [], _ => trivial
  | _ :: _, _ :: _, ⟨⟨b, t, u, e, h⟩, r⟩ => ⟨⟨b, t, u, e, s _ h⟩, TupsL.mono s r⟩
/-- rows of pairs on the ledger -/
noncomputable def NestL (tl : List (Addr × Obj)) : List Value → List (List (Int × Int)) → Prop
  | [], [] => True
  | v :: vs, r :: rs => (∃ b its n, v = .ref b ∧ (b, W.listOf its n) ∈ tl ∧ TupsL tl its.toList r) ∧ NestL tl vs rs
  | _, _ => False
theorem NestL.mono {tl tl' : List (Addr × Obj)} (s : ∀ p ∈ tl, p ∈ tl') : ∀ {vs : List Value} {rs : List (List (Int × Int))}, NestL tl vs rs → NestL tl' vs rs
  | [], [], _ => trivial
  | _ :: _, _ :: _, ⟨⟨b, its, n, e, h, q⟩, r⟩ => ⟨⟨b, its, n, e, s _ h, q.mono s⟩, NestL.mono s r⟩
theorem NestL.snoc {tl : List (Addr × Obj)} {b : Addr} {its : Array Value} {n : Nat} {row : List (Int × Int)} (hm : (b, W.listOf its n) ∈ tl) (e : TupsL tl its.toList row) : ∀ {vs : List Value} {rs : List (List (Int × Int))}, NestL tl vs rs → NestL tl (vs ++ [.ref b]) (rs ++ [row])
  | [], [], _ => ⟨⟨b, its, n, rfl, hm, e⟩, trivial⟩
  | _ :: _, _ :: _, ⟨p, r⟩ => ⟨p, NestL.snoc hm e r⟩
theorem NestL.len {tl : List (Addr × Obj)} : ∀ {vs : List Value} {rs : List (List (Int × Int))}, NestL tl vs rs → vs.length = rs.length
  | [], [], _ => rfl
  | _ :: _, _ :: _, ⟨_, r⟩ => congrArg (· + 1) (NestL.len r)
theorem NestL.at {tl : List (Addr × Obj)} : ∀ {vs : List Value} {rs : List (List (Int × Int))}, NestL tl vs rs → ∀ {i : Nat} {v : Value}, vs[i]? = some v → ∃ b its n row, v = .ref b ∧ rs[i]? = some row ∧ (b, W.listOf its n) ∈ tl ∧ TupsL tl its.toList row
  | _ :: _, r :: _, ⟨⟨b, its, n, e, h, q⟩, _⟩, 0, v, hv => ⟨b, its, n, r, by cases hv; exact e, rfl, h, q⟩
  | _ :: _, _ :: _, ⟨_, r⟩, i + 1, v, hv => NestL.at r (i := i) hv
theorem append_led {prog : Program} {w : World} {A : Around} {E : Value → Shared → Prop} {s : Shared} {h₀ : Heap} {L : Addr} {m : Str → Option Value} {D : Addr} {its : Array Value} {n : Nat} {x : Value} {Q : Value → Shared → Prop} {led : List (Addr × Obj)} (rest : List (Addr × Obj))
    (F : Fr h₀ L s.heap m) (N : News h₀ L s.heap led) (hm : (D, W.listOf its n) ∈ led) (hr : ∀ p ∈ rest, p ∈ led ∧ p.1 ≠ D)
    (h : ∀ h', Fr h₀ L h' m → News h₀ L h' ((D, W.listOf (its.push x) (n + 1)) :: rest) → Q .none { s with heap := h' })
    (hsz : its.size ≤ sizeLine) :
    wpAny (model prog w) A (call (.builtin "list.append") [.ref D, x]) Q E s := by
  have hD := N _ hm
  refine append_at (hsz := hsz) hD.1 fun h' hs hD' => h h' (F.change hs hD.2.1 hD.2.2) fun p hp => ?_
  rcases List.mem_cons.mp hp with rfl | hp
  · exact ⟨hD', hD.2⟩
  · have z := N p (hr p hp).1
    exact ⟨hs.extBut _ _ (hr p hp).2 z.1, z.2⟩
theorem allLt_mem {d : Nat} {l : List (Addr × Obj)} (h : AllLt d l) : ∀ p ∈ l, @LT.lt Nat _ p.1 d := by
  induction l with
  | nil => intro p hp; exact nomatch hp
  | cons q r ih =>
    intro p hp
    have h1 : @LT.lt Nat _ q.1 d ∧ AllLt d r := h
    rcases List.mem_cons.mp hp with e | hp
    · rw [e]; exact h1.1
    · exact ih h1.2 p hp
theorem neG {G b : Addr} {o : Obj} {l : List (Addr × Obj)} (h : ∀ p ∈ l, p.1 ≠ G) (hm : (b, o) ∈ l) : @Ne Nat b G := h _ hm
theorem news_ins {h₀ h : Heap} {L : Addr} {p q : Addr × Obj} {tail : List (Addr × Obj)} (xs : List (Addr × Obj)) (N : News h₀ L h (p :: q :: tail)) (hx : ∀ x ∈ xs, x ∈ tail) : News h₀ L h (p :: (xs ++ (q :: tail))) := fun y hy => by
  rcases List.mem_cons.mp hy with rfl | hy
  · exact N _ List.mem_cons_self
  rcases List.mem_append.mp hy with hy | hy
  · exact N _ (List.mem_cons_of_mem _ (List.mem_cons_of_mem _ (hx y hy)))
  · exact N _ (List.mem_cons_of_mem _ hy)
/-- the outer loop's invariant -/
inductive JR (nw : List (Addr × Obj)) (k : Nat) (m : Str → Option Value) (led : List (Addr × Obj)) : Prop
  | intro (a its n tl) (f1 : m (Str.ofString "nests") = some (.ref a)) (f2 : led = (a, W.listOf its n) :: (tl ++ nw)) (f3 : NestL tl its.toList (ringR k))
end
section
open PySem PySem.W PyProof.Rows PySem.Calls PySem.Spec
theorem m_is3 {m : Str → Option Value} {x1 x2 x3 : Str} {v1 v2 v3 : Value} (h1 : m x1 = some v1) (h2 : m x2 = some v2) (h3 : m x3 = some v3) :
    ∃ m2 : Str → Option Value, m = fun y => if y = x1 then some v1 else if y = x2 then some v2 else if y = x3 then some v3 else m2 y := by
  obtain ⟨m2, e⟩ := m_is2 h2 h3
  refine ⟨m2, ?_⟩
  funext y
  split
  · rename y = x1 => q; rw [q, h1]
  · rw [e]
theorem m_is4 {m : Str → Option Value} {x1 x2 x3 x4 : Str} {v1 v2 v3 v4 : Value} (h1 : m x1 = some v1) (h2 : m x2 = some v2) (h3 : m x3 = some v3) (h4 : m x4 = some v4) :
    ∃ m2 : Str → Option Value, m = fun y => if y = x1 then some v1 else if y = x2 then some v2 else if y = x3 then some v3 else if y = x4 then some v4 else m2 y := by
  obtain ⟨m2, e⟩ := m_is3 h2 h3 h4
  refine ⟨m2, ?_⟩
  funext y
  split
  · rename y = x1 => q; rw [q, h1]
  · rw [e]
theorem m_is5 {m : Str → Option Value} {x1 x2 x3 x4 x5 : Str} {v1 v2 v3 v4 v5 : Value} (h1 : m x1 = some v1) (h2 : m x2 = some v2) (h3 : m x3 = some v3) (h4 : m x4 = some v4) (h5 : m x5 = some v5) :
    ∃ m2 : Str → Option Value, m = fun y => if y = x1 then some v1 else if y = x2 then some v2 else if y = x3 then some v3 else if y = x4 then some v4 else if y = x5 then some v5 else m2 y := by
  obtain ⟨m2, e⟩ := m_is4 h2 h3 h4 h5
  refine ⟨m2, ?_⟩
  funext y
  split
  · rename y = x1 => q; rw [q, h1]
  · rw [e]
theorem m_is6 {m : Str → Option Value} {x1 x2 x3 x4 x5 x6 : Str} {v1 v2 v3 v4 v5 v6 : Value} (h1 : m x1 = some v1) (h2 : m x2 = some v2) (h3 : m x3 = some v3) (h4 : m x4 = some v4) (h5 : m x5 = some v5) (h6 : m x6 = some v6) :
    ∃ m2 : Str → Option Value, m = fun y => if y = x1 then some v1 else if y = x2 then some v2 else if y = x3 then some v3 else if y = x4 then some v4 else if y = x5 then some v5 else if y = x6 then some v6 else m2 y := by
  obtain ⟨m2, e⟩ := m_is5 h2 h3 h4 h5 h6
  refine ⟨m2, ?_⟩
  funext y
  split
  · rename y = x1 => q; rw [q, h1]
  · rw [e]
theorem TupsL.len {tl : List (Addr × Obj)} : ∀ {vs : List Value} {rs : List (Int × Int)}, TupsL tl vs rs → vs.length = rs.length
  | [], [], _ => rfl
  | _ :: _, _ :: _, ⟨_, r⟩ => congrArg (· + 1) (TupsL.len r)
theorem TupsL.take {tl : List (Addr × Obj)} : ∀ {vs : List Value} {rs : List (Int × Int)}, TupsL tl vs rs → ∀ n, TupsL tl (vs.take n) (rs.take n)
  | _, _, _, 0 => by simp only [List.take_zero]; trivial
  | [], [], _, _ + 1 => trivial
  | _ :: _, _ :: _, ⟨p, r⟩, n + 1 => ⟨p, TupsL.take r n⟩
theorem TupsL.drop {tl : List (Addr × Obj)} : ∀ {vs : List Value} {rs : List (Int × Int)}, TupsL tl vs rs → ∀ n, TupsL tl (vs.drop n) (rs.drop n)
  | _, _, h, 0 => h
  | [], [], _, _ + 1 => trivial
  | _ :: _, _ :: _, ⟨_, r⟩, n + 1 => TupsL.drop r n
theorem TupsL.app {tl : List (Addr × Obj)} {vs' : List Value} {rs' : List (Int × Int)} (h' : TupsL tl vs' rs') : ∀ {vs : List Value} {rs : List (Int × Int)}, TupsL tl vs rs → TupsL tl (vs ++ vs') (rs ++ rs')
  | [], [], _ => h'
  | _ :: _, _ :: _, ⟨p, r⟩ => ⟨p, TupsL.app h' r⟩
theorem TupsL.at {tl : List (Addr × Obj)} : ∀ {vs : List Value} {rs : List (Int × Int)}, TupsL tl vs rs → ∀ {i : Nat}, i < vs.length → ∃ b t u, vs[i]? = some (.ref b) ∧ (b, tup2 (rs.getD i (0, 0)).1 (rs.getD i (0, 0)).2 t u) ∈ tl ∧ rs.getD i (0, 0) ∈ rs
  | _ :: _, r :: _, ⟨⟨b, t, u, e, h⟩, _⟩, 0, _ => ⟨b, t, u, by rw [e]; rfl, h, List.mem_cons_self⟩
  | _ :: _, _ :: _, ⟨_, r⟩, i + 1, hi =>
    let ⟨b, t, u, h1, h2, h3⟩ := TupsL.at r (i := i) (Nat.lt_of_succ_lt_succ hi)
    ⟨b, t, u, h1, h2, List.mem_cons_of_mem _ h3⟩
theorem TupsL.one {tl : List (Addr × Obj)} {b : Addr} {x y : Int} {t u : Tok} (h : (b, tup2 x y t u) ∈ tl) : TupsL tl [.ref b] [(x, y)] := ⟨⟨b, t, u, rfl, h⟩, trivial⟩
/-- a ring's row, with the new place drawn into the ring at p -/
noncomputable def newRow (k : Nat) (row : List (Int × Int)) (p : Nat) : List (Int × Int) := row.take p ++ [((row.getD p (0, 0)).1 + 2 ^ k, (row.getD p (0, 0)).2 + 1)] ++ row.drop (p + 1)
noncomputable def placeRows (k : Nat) (row : List (Int × Int)) (p : Nat) : List (List (Int × Int)) := (List.range p).flatMap fun q => List.replicate (row.getD q (0, 0)).2.toNat (newRow k row q)
theorem grow_is (k : Nat) (row : List (Int × Int)) : growRow k row = (row ++ [(2 ^ k, 1)]) :: placeRows k row row.length := rfl
theorem placeRows_succ (k : Nat) (row : List (Int × Int)) (p : Nat) : placeRows k row (p + 1) = placeRows k row p ++ List.replicate (row.getD p (0, 0)).2.toNat (newRow k row p) := by
  unfold placeRows
  rw [List.range_succ, List.flatMap_append, List.flatMap_cons, List.flatMap_nil, List.append_nil]
theorem ring_len : ∀ k, k < 4 → ∀ i, i ≤ 6 → (((ringR k).take i).flatMap (growRow k)).length ≤ 24 := by decide +kernel
theorem ring_size : ∀ k, k < 4 → (ringR k).length ≤ 6 := by decide +kernel
theorem ring_row : ∀ k, k < 4 → ∀ row ∈ ringR k, row.length ≤ 3 ∧ ∀ r ∈ row, 0 ≤ r.1 ∧ r.1 ≤ 15 ∧ 1 ≤ r.2 ∧ r.2 ≤ 3 := by decide +kernel
noncomputable abbrev mf2 (G : Addr) (k : Nat) (t : Tok) (m : Str → Option Value) : Prop := m (Str.ofString "grown") = some (.ref G) ∧ m (Str.ofString "k") = some (.int (k : Int) t)
noncomputable abbrev mf3 (G : Addr) (k : Nat) (t : Tok) (b : Addr) (m : Str → Option Value) : Prop := m (Str.ofString "grown") = some (.ref G) ∧ m (Str.ofString "k") = some (.int (k : Int) t) ∧ m (Str.ofString "rings") = some (.ref b)
noncomputable abbrev mf6 (G : Addr) (k : Nat) (t : Tok) (b : Addr) (p : Nat) (tp : Tok) (ms : Int) (tm : Tok) (z : Int) (tz : Tok) (m : Str → Option Value) : Prop := m (Str.ofString "grown") = some (.ref G) ∧ m (Str.ofString "k") = some (.int (k : Int) t) ∧ m (Str.ofString "rings") = some (.ref b) ∧ m (Str.ofString "place") = some (.int (p : Int) tp) ∧ m (Str.ofString "mask") = some (.int ms tm) ∧ m (Str.ofString "size") = some (.int z tz)
/-- a loop's invariant: the list that grows stands ahead on the ledger -/
inductive JG (G : Addr) (keep old : List (Addr × Obj)) (mf : (Str → Option Value) → Prop) (rows : List (List (Int × Int))) (c : Nat) (m : Str → Option Value) (led : List (Addr × Obj)) : Prop
  | intro (gs n tl) (f1 : mf m) (f2 : led = (G, W.listOf gs n) :: (tl ++ keep)) (f3 : (∀ p ∈ tl, ∀ q ∈ keep, p.1 ≠ q.1)) (f4 : (∀ p ∈ tl ++ keep, p.1 ≠ G)) (f5 : NestL (tl ++ old) gs.toList rows) (f6 : gs.size ≤ c)
theorem range_ok {n : Nat} (h : n ≤ 8) : Builtin.Range.small 0 (n : Int) 1 = true ∧ Builtin.Range.rangeSize 0 (n : Int) 1 = ((n : Nat) : Int) := by
  have : ∀ n : Fin 9, Builtin.Range.small 0 ((n.val : Nat) : Int) 1 = true ∧ Builtin.Range.rangeSize 0 ((n.val : Nat) : Int) 1 = ((n.val : Nat) : Int) := by decide +kernel
  exact this ⟨n, by omega⟩
theorem JG.mono {G : Addr} {keep old : List (Addr × Obj)} {mf mf' : (Str → Option Value) → Prop} {rows rows' : List (List (Int × Int))} {c c' : Nat} {m m' : Str → Option Value} {led : List (Addr × Obj)} (J : JG G keep old mf rows c m led) (hm : mf m → mf' m') (hr : rows = rows') (hc : c ≤ c') : JG G keep old mf' rows' c' m' led := by
  obtain ⟨gs, n, tl, h1, h2, h3, h4, h5, h6⟩ := J
  exact ⟨gs, n, tl, hm h1, h2, h3, h4, hr ▸ h5, Nat.le_trans h6 hc⟩
theorem off_cons {G I : Addr} {oI : Obj} {tail : List (Addr × Obj)} (h1 : G ≠ I) (h2 : ∀ p ∈ tail, p.1 ≠ G) : ∀ p ∈ ([] ++ ((I, oI) :: tail) : List (Addr × Obj)), p.1 ≠ G := fun p hp => by
  rcases List.mem_cons.mp hp with rfl | hp
  · exact Ne.symm h1
  · exact h2 p hp
theorem jg_push {G A1 T : Addr} {oT : Obj} {gs its1 : Array Value} {gn n1 : Nat} {tl keep old : List (Addr × Obj)} {rows : List (List (Int × Int))} {row : List (Int × Int)} {c : Nat} {mf : (Str → Option Value) → Prop} {m : Str → Option Value}
    (hd : ∀ p ∈ tl, ∀ q ∈ keep, p.1 ≠ q.1) (ho : ∀ p ∈ tl ++ keep, p.1 ≠ G) (hN : NestL (tl ++ old) gs.toList rows) (hc : gs.size ≤ c) (lA : ∀ p ∈ (G, W.listOf gs gn) :: (tl ++ keep), p.1 < A1) (lT : ∀ p ∈ (G, W.listOf gs gn) :: (tl ++ keep), p.1 < T)
    (hrow : TupsL ((T, oT) :: (tl ++ old)) its1.toList row) (hm : mf m) :
    JG G keep old mf (rows ++ [row]) (c + 1) m ((G, W.listOf (gs.push (.ref A1)) (gn + 1)) :: ((A1, W.listOf its1 n1) :: (T, oT) :: (tl ++ keep))) := by
  refine ⟨gs.push (.ref A1), gn + 1, (A1, W.listOf its1 n1) :: (T, oT) :: tl, hm, rfl, ?_, ?_, ?_, ?_⟩
  · intro p hp q hq
    rcases List.mem_cons.mp hp with rfl | hp
    · exact Nat.ne_of_gt (lA q (List.mem_cons_of_mem _ (List.mem_append.mpr (.inr hq))))
    rcases List.mem_cons.mp hp with rfl | hp
    · exact Nat.ne_of_gt (lT q (List.mem_cons_of_mem _ (List.mem_append.mpr (.inr hq))))
    · exact hd p hp q hq
  · intro p hp
    rw [List.cons_append, List.cons_append] at hp
    rcases List.mem_cons.mp hp with rfl | hp
    · exact Nat.ne_of_gt (lA _ List.mem_cons_self)
    rcases List.mem_cons.mp hp with rfl | hp
    · exact Nat.ne_of_gt (lT _ List.mem_cons_self)
    · exact ho p hp
  · rw [Array.toList_push]
    exact NestL.snoc (b := A1) (its := its1) (n := n1) List.mem_cons_self (hrow.mono fun p hp => List.mem_cons_of_mem _ hp) (hN.mono fun p hp => List.mem_cons_of_mem _ (List.mem_cons_of_mem _ hp))
  · rw [Array.size_push]; omega
theorem jg_pop {h₀ h : Heap} {L G I : Addr} {oI : Obj} {tl3 keep old led : List (Addr × Obj)} {mf mf' : (Str → Option Value) → Prop} {rows : List (List (Int × Int))} {c : Nat} {m m' : Str → Option Value} (J : JG G ((I, oI) :: (tl3 ++ keep)) (tl3 ++ old) mf rows c m led) (N : News h₀ L h led)
    (hd : ∀ p ∈ tl3, ∀ q ∈ keep, p.1 ≠ q.1) (hI : ∀ p ∈ tl3 ++ keep, p.1 ≠ I) (hG : G ≠ I) (hm : mf m → mf' m') : ∃ led', News h₀ L h ((I, oI) :: led') ∧ (∀ p ∈ led', p.1 ≠ I) ∧ JG G keep old mf' rows c m' led' := by
  obtain ⟨gs, n, tl, h1, rfl, h3, h4, h5, h6⟩ := J
  refine ⟨(G, W.listOf gs n) :: ((tl ++ tl3) ++ keep), fun p hp => N p ?_, fun p hp => ?_, gs, n, tl ++ tl3, hm h1, rfl, ?_, fun p hp => h4 p ?_, ?_, h6⟩
  · simp only [List.mem_cons, List.mem_append] at hp ⊢
    rcases hp with hp | hp | (hp | hp) | hp <;> simp [hp]
  · simp only [List.mem_cons, List.mem_append] at hp
    rcases hp with rfl | (hp | hp) | hp
    · exact hG
    · exact h3 p hp _ List.mem_cons_self
    · exact hI p (List.mem_append.mpr (.inl hp))
    · exact hI p (List.mem_append.mpr (.inr hp))
  · intro p hp q hq
    rcases List.mem_append.mp hp with hp | hp
    · exact h3 p hp q (List.mem_cons_of_mem _ (List.mem_append.mpr (.inr hq)))
    · exact hd p hp q hq
  · simp only [List.mem_cons, List.mem_append] at hp ⊢
    rcases hp with (hp | hp) | hp <;> simp [hp]
  · rw [List.append_assoc]; exact h5
theorem jg_first {G A1 T I2 b : Addr} {oI2 : Obj} {gs is : Array Value} {gn c k : Nat} {t' t u : Tok} {tl2 keep tl : List (Addr × Obj)} {rows : List (List (Int × Int))} {row : List (Int × Int)} {m : Str → Option Value}
    (hG : G ≠ I2) (ho2 : ∀ p ∈ tl2 ++ keep, p.1 ≠ G) (hN2 : NestL (tl2 ++ tl) gs.toList rows) (hc : gs.size ≤ c) (lA1 : ∀ p ∈ (G, W.listOf gs gn) :: (I2, oI2) :: (tl2 ++ keep), p.1 < A1) (lT1 : ∀ p ∈ (G, W.listOf gs gn) :: (I2, oI2) :: (tl2 ++ keep), p.1 < T) (htup : TupsL tl is.toList row) (hm : mf3 G k t' b m) :
    JG G ((I2, oI2) :: (tl2 ++ keep)) (tl2 ++ tl) (mf3 G k t' b) (rows ++ [row ++ [(2 ^ k, 1)]] ++ placeRows k row 0) (c + 1) m ((G, W.listOf (gs.push (.ref A1)) (gn + 1)) :: (A1, W.listOf (is.toList ++ #[Value.ref T].toList).toArray 0) :: (T, tup2 (2 ^ k) 1 t u) :: (I2, oI2) :: (tl2 ++ keep)) := by
  have J0 := jg_push (mf := mf3 G k t' b) (m := m) (A1 := A1) (T := T) (oT := tup2 (2 ^ k) 1 t u) (row := row ++ [(2 ^ k, 1)]) (tl := []) (keep := (I2, oI2) :: (tl2 ++ keep)) (old := tl2 ++ tl) (its1 := (is.toList ++ #[Value.ref T].toList).toArray) (n1 := 0) (gn := gn) (fun _ h => nomatch h) (off_cons hG ho2) hN2 hc lA1 lT1
    (TupsL.app (TupsL.one List.mem_cons_self) (htup.mono fun p hp => by simp [hp])) hm
  exact J0.mono (fun h => h) (by simp [placeRows]) (Nat.le_refl _)
theorem led_first {h₀ h : Heap} {L : Addr} {x g a t : Addr × Obj} {l : List (Addr × Obj)} (N : News h₀ L h (x :: g :: a :: t :: l)) : News h₀ L h (g :: a :: t :: x :: l) := fun p hp => N p (by
  simp only [List.mem_cons] at hp ⊢
  rcases hp with hp | hp | hp | hp | hp <;> simp [hp])
theorem mem_up {tl3 tl2 keep : List (Addr × Obj)} {x p : Addr × Obj} (h : p ∈ keep) : p ∈ tl3 ++ (x :: (tl2 ++ keep)) := by simp [h]
theorem led_turn {h₀ h : Heap} {L : Addr} {x y g : Addr × Obj} {l : List (Addr × Obj)} (N : News h₀ L h (x :: y :: g :: l)) : News h₀ L h (g :: ([] ++ (x :: l))) := fun p hp => N p (by
  simp only [List.mem_cons, List.nil_append] at hp ⊢
  rcases hp with hp | hp | hp <;> simp [hp])
theorem jg_turn {G I3 b : Addr} {oI3 : Obj} {gs : Array Value} {gn c k p : Nat} {t' tp ta tb : Tok} {ms z : Int} {tl3 keep old : List (Addr × Obj)} {rows : List (List (Int × Int))} {row : List (Int × Int)} {m : Str → Option Value}
    (hG : G ≠ I3) (ho : ∀ p ∈ tl3 ++ keep, p.1 ≠ G) (hN : NestL (tl3 ++ old) gs.toList rows) (hc : gs.size ≤ c) (hm : mf6 G k t' b p tp ms ta z tb m) :
    JG G ((I3, oI3) :: (tl3 ++ keep)) (tl3 ++ old) (mf6 G k t' b p tp ms ta z tb) (rows ++ List.replicate 0 row) (c + 0) m ((G, W.listOf gs gn) :: ([] ++ ((I3, oI3) :: (tl3 ++ keep)))) :=
  ⟨gs, gn, [], hm, rfl, (fun _ h => nomatch h), off_cons hG ho, by rw [List.replicate_zero, List.append_nil]; exact hN, hc⟩
theorem JG.recount {G : Addr} {keep old : List (Addr × Obj)} {mf : (Str → Option Value) → Prop} {rows rows' : List (List (Int × Int))} {c c' : Nat} {m : Str → Option Value} {led : List (Addr × Obj)} (J : JG G keep old mf rows c m led) (hr : rows = rows') (hc : rows'.length ≤ c') : JG G keep old mf rows' c' m led := by
  subst hr
  obtain ⟨gs, n, tl, h1, h2, h3, h4, h5, h6⟩ := J
  exact ⟨gs, n, tl, h1, h2, h3, h4, h5, by rw [← Array.length_toList, h5.len]; exact hc⟩
theorem new_tups {tl tl' : List (Addr × Obj)} {is : Array Value} {row : List (Int × Int)} {T : Addr} {t u : Tok} {ms : Int} {z k p : Nat} (h : TupsL tl is.toList row) (s : ∀ q ∈ tl, q ∈ tl') (e1 : (row.getD p (0, 0)).1 = ms) (e2 : (row.getD p (0, 0)).2 = (z : Int)) :
    TupsL ((T, tup2 (ms + 2 ^ k) (z + 1) t u) :: tl') (((is.toList.take p).toArray.toList ++ #[Value.ref T].toList).toArray.toList ++ (is.toList.drop (p + 1)).toArray.toList).toArray.toList (newRow k row p) := by
  subst e1
  unfold newRow
  rw [e2]
  show TupsL _ ((is.toList.take p ++ [Value.ref T]) ++ is.toList.drop (p + 1)) _
  have hm : ∀ q ∈ tl, q ∈ (T, tup2 ((row.getD p (0, 0)).1 + 2 ^ k) (z + 1) t u) :: tl' := fun q hq => List.mem_cons_of_mem _ (s q hq)
  exact TupsL.app ((h.drop (p + 1)).mono hm) (TupsL.app (TupsL.one List.mem_cons_self) ((h.take p).mono hm))
theorem row_end {k i : Nat} {row : List (Int × Int)} {n : Nat} (h : (ringR k)[i]? = some row) (hn : n = row.length) : ((ringR k).take i).flatMap (growRow k) ++ [row ++ [(2 ^ k, 1)]] ++ placeRows k row n = ((ringR k).take (i + 1)).flatMap (growRow k) := by
  subst hn
  rw [List.take_add_one, h, List.flatMap_append]
  show _ = _ ++ List.flatMap (growRow k) [row]
  rw [List.flatMap_cons, List.flatMap_nil, List.append_nil, grow_is, List.append_assoc]
  rfl
theorem jg_push2 {G A1 T : Addr} {oT : Obj} {gs its1 : Array Value} {gn n1 : Nat} {tl keep old : List (Addr × Obj)} {rows rows' : List (List (Int × Int))} {row : List (Int × Int)} {c c' : Nat} {mf : (Str → Option Value) → Prop} {m : Str → Option Value}
    (hd : ∀ p ∈ tl, ∀ q ∈ keep, p.1 ≠ q.1) (ho : ∀ p ∈ tl ++ keep, p.1 ≠ G) (hN : NestL (tl ++ old) gs.toList rows) (hc : gs.size ≤ c) (lA : ∀ p ∈ (G, W.listOf gs gn) :: (tl ++ keep), p.1 < A1) (lT : ∀ p ∈ (G, W.listOf gs gn) :: (tl ++ keep), p.1 < T)
    (hrow : TupsL ((T, oT) :: (tl ++ old)) its1.toList row) (hr : rows ++ [row] = rows') (hc' : c + 1 ≤ c') (hm : mf m) :
    JG G keep old mf rows' c' m ((G, W.listOf (gs.push (.ref A1)) (gn + 1)) :: ((A1, W.listOf its1 n1) :: (T, oT) :: (tl ++ keep))) := (jg_push hd ho hN hc lA lT hrow hm).mono (fun h => h) hr hc'
section
variable {prog : Program} {w : World} {A : Around} {E : Value → Shared → Prop} {s : Shared} {h₀ : Heap} {L l : Addr} {m : Str → Option Value} {news : List (Addr × Obj)} {value slice : PySem.Expr} {its : Array Value} {n : Nat} {x : Int} {u : Tok} {Q : Value → Shared → Prop}
theorem slice_to {p : Nat} (F : Fr h₀ L s.heap m) (N : News h₀ L s.heap news) (hm : (l, W.listOf its n) ∈ news) (hz : its.size ≤ 5) (hx : x = (p : Int))
    (h : ∀ D h', Fr h₀ L h' m → News h₀ L h' ((D, W.listOf (its.toList.take p).toArray 0) :: news) → (∀ p ∈ news, p.1 < D) → Q (.ref D) { s with heap := h' })
    (hs : subscripted slice false (.ref l) (.ref s.heap.objs.size) = operate [.ref s.heap.objs.size, .ref l] (getItem (.ref l) (.ref s.heap.objs.size))) (ht : ∀ r, letTemporaryGo value (.ref l) r = pure ()) :
    wpAny (model prog w) A (subscriptTail value slice (.ref l) (.ref s.heap.objs.size)) Q E { s with heap := s.heap.push { cls := .type "slice", data := .fields #[.none, .int x u, .none] } } := by
  subst hx
  refine kmk_slice F N (News.isList N hm) IsPart.none (IsPart.int _ _) (fun D h' F' N' l1 => h D h' F' ?_ l1) hs ht (Nat.le_trans hz (by decide))
  rw [slicePick_upto'] at N'
  exact N'
theorem slice_from {p : Nat} (F : Fr h₀ L s.heap m) (N : News h₀ L s.heap news) (hm : (l, W.listOf its n) ∈ news) (hz : its.size ≤ 5) (hx : x = (p : Int))
    (h : ∀ D h', Fr h₀ L h' m → News h₀ L h' ((D, W.listOf (its.toList.drop p).toArray 0) :: news) → (∀ p ∈ news, p.1 < D) → Q (.ref D) { s with heap := h' })
    (hs : subscripted slice false (.ref l) (.ref s.heap.objs.size) = operate [.ref s.heap.objs.size, .ref l] (getItem (.ref l) (.ref s.heap.objs.size))) (ht : ∀ r, letTemporaryGo value (.ref l) r = pure ()) :
    wpAny (model prog w) A (subscriptTail value slice (.ref l) (.ref s.heap.objs.size)) Q E { s with heap := s.heap.push { cls := .type "slice", data := .fields #[.int x u, .none, .none] } } := by
  subst hx
  refine kmk_slice F N (News.isList N hm) (IsPart.int _ _) IsPart.none (fun D h' F' N' l1 => h D h' F' ?_ l1) hs ht (Nat.le_trans hz (by decide))
  rw [slicePick_from'] at N'
  exact N'
theorem pow_two {k : Nat} {t : Tok} (hk : k < 16) (h : ∀ t' j, Q (.int (2 ^ k) t') { s with toks := j }) : wpAny (model prog w) A (binaryOp .Pow (.int 2 t) (.int (k : Int) u)) Q E s :=
  pow_int_small (Int.natCast_nonneg k) (by omega) (by decide) (by rw [Int.toNat_natCast]; exact h _ _)
theorem len_led (N : News h₀ L s.heap news) (hm : (l, W.listOf its n) ∈ news) (hz : its.size ≤ 64) (h : ∀ t' j, Q (.int (its.size : Int) t') { s with toks := j }) :
    wpAny (model prog w) A (call (.builtin "len") [.ref l]) Q E s := len_list (News.isList N hm) (by omega) (h _ _)
theorem app_any {G A1 T I : Addr} {oI oT : Obj} {gs its1 : Array Value} {gn n1 : Nat} {led tail : List (Addr × Obj)} (F : Fr h₀ L s.heap m) (N : News h₀ L s.heap led) (hA : (A1, W.listOf its1 n1) ∈ led) (hT : (T, oT) ∈ led) (hG : (G, W.listOf gs gn) ∈ led) (hI : (I, oI) ∈ led) (hs : ∀ p ∈ tail, p ∈ led)
    (lA : ∀ p ∈ (G, W.listOf gs gn) :: tail, p.1 < A1) (lT : ∀ p ∈ (G, W.listOf gs gn) :: tail, p.1 < T) (hIG : G ≠ I) (ho : ∀ p ∈ tail, p.1 ≠ G) (hz : gs.size ≤ 64)
    (h : ∀ h', Fr h₀ L h' m → News h₀ L h' ((I, oI) :: (G, W.listOf (gs.push (.ref A1)) (gn + 1)) :: (A1, W.listOf its1 n1) :: (T, oT) :: tail) → Q .none { s with heap := h' }) :
    wpAny (model prog w) A (call (.builtin "list.append") [.ref G, .ref A1]) Q E s := by
  refine append_led ((I, oI) :: (A1, W.listOf its1 n1) :: (T, oT) :: tail) F N hG ?_ (fun h' F' N' => h h' F' fun p hp => N' p ?_) (Nat.le_trans hz (by decide))
  · intro p hp
    rcases List.mem_cons.mp hp with rfl | hp
    · exact ⟨hI, Ne.symm hIG⟩
    rcases List.mem_cons.mp hp with rfl | hp
    · exact ⟨hA, Nat.ne_of_gt (lA _ List.mem_cons_self)⟩
    rcases List.mem_cons.mp hp with rfl | hp
    · exact ⟨hT, Nat.ne_of_gt (lT _ List.mem_cons_self)⟩
    · exact ⟨hs p hp, ho p hp⟩
  · simp only [List.mem_cons] at hp ⊢
    rcases hp with hp | hp | hp | hp | hp <;> simp [hp]
theorem app_first {G A1 Ld T I : Addr} {oI oL oT : Obj} {gs its1 : Array Value} {gn n1 : Nat} {tail : List (Addr × Obj)} (F : Fr h₀ L s.heap m) (N : News h₀ L s.heap ((A1, W.listOf its1 n1) :: (Ld, oL) :: (T, oT) :: (I, oI) :: (G, W.listOf gs gn) :: tail))
    (lA : ∀ p ∈ (Ld, oL) :: (T, oT) :: (I, oI) :: (G, W.listOf gs gn) :: tail, p.1 < A1) (lT : AllLt T ((I, oI) :: (G, W.listOf gs gn) :: tail)) (hIG : G ≠ I) (ho : ∀ p ∈ tail, p.1 ≠ G) (hz : gs.size ≤ 64)
    (h : ∀ h', Fr h₀ L h' m → News h₀ L h' ((I, oI) :: (G, W.listOf (gs.push (.ref A1)) (gn + 1)) :: (A1, W.listOf its1 n1) :: (T, oT) :: tail) → (∀ p ∈ (G, W.listOf gs gn) :: (I, oI) :: tail, p.1 < A1) → (∀ p ∈ (G, W.listOf gs gn) :: (I, oI) :: tail, p.1 < T) → Q .none { s with heap := h' }) :
    wpAny (model prog w) A (call (.builtin "list.append") [.ref G, .ref A1]) Q E s := by
  have lA' : ∀ p ∈ (I, oI) :: (G, W.listOf gs gn) :: tail, p.1 < A1 := fun p hp => lA p (List.mem_cons_of_mem _ (List.mem_cons_of_mem _ hp))
  have lT' := allLt_mem lT
  exact app_any (led := (A1, W.listOf its1 n1) :: (Ld, oL) :: (T, oT) :: (I, oI) :: (G, W.listOf gs gn) :: tail) F N (by simp) (by simp) (by simp) (by simp) (fun p hp => by simp [hp]) (fun p hp => lA' p (List.mem_cons_of_mem _ hp)) (fun p hp => lT' p (List.mem_cons_of_mem _ hp)) hIG ho hz fun h' F' N' => h h' F' N' (fun p hp => lA' p (by simp only [List.mem_cons] at hp ⊢; rcases hp with hp | hp | hp <;> simp [hp])) (fun p hp => lT' p (by simp only [List.mem_cons] at hp ⊢; rcases hp with hp | hp | hp <;> simp [hp]))
theorem app_turn {G A1 T I : Addr} {x1 x2 x3 x4 : Addr × Obj} {oI oT : Obj} {gs its1 : Array Value} {gn n1 : Nat} {tail : List (Addr × Obj)} (F : Fr h₀ L s.heap m) (N : News h₀ L s.heap ((A1, W.listOf its1 n1) :: x1 :: x2 :: x3 :: (T, oT) :: x4 :: (I, oI) :: (G, W.listOf gs gn) :: tail))
    (lA : ∀ p ∈ x1 :: x2 :: x3 :: (T, oT) :: x4 :: (I, oI) :: (G, W.listOf gs gn) :: tail, p.1 < A1) (lT : AllLt T (x4 :: (I, oI) :: (G, W.listOf gs gn) :: tail)) (hI : ∀ p ∈ (G, W.listOf gs gn) :: tail, p.1 ≠ I) (ho : ∀ p ∈ tail, p.1 ≠ G) (hz : gs.size ≤ 64)
    (h : ∀ h', Fr h₀ L h' m → News h₀ L h' ((I, oI) :: (G, W.listOf (gs.push (.ref A1)) (gn + 1)) :: (A1, W.listOf its1 n1) :: (T, oT) :: tail) → (∀ p ∈ (G, W.listOf gs gn) :: tail, p.1 < A1) → (∀ p ∈ (G, W.listOf gs gn) :: tail, p.1 < T) → (∀ p ∈ (G, W.listOf (gs.push (.ref A1)) (gn + 1)) :: (A1, W.listOf its1 n1) :: (T, oT) :: tail, p.1 ≠ I) → Q .none { s with heap := h' }) :
    wpAny (model prog w) A (call (.builtin "list.append") [.ref G, .ref A1]) Q E s := by
  have lA' : ∀ p ∈ (I, oI) :: (G, W.listOf gs gn) :: tail, p.1 < A1 := fun p hp => lA p (by simp only [List.mem_cons] at hp ⊢; rcases hp with hp | hp | hp <;> simp [hp])
  have lT' : ∀ p ∈ (I, oI) :: (G, W.listOf gs gn) :: tail, p.1 < T := fun p hp => allLt_mem lT p (List.mem_cons_of_mem _ hp)
  refine app_any (led := (A1, W.listOf its1 n1) :: x1 :: x2 :: x3 :: (T, oT) :: x4 :: (I, oI) :: (G, W.listOf gs gn) :: tail) F N (by simp) (by simp) (by simp) (by simp) (fun p hp => by simp [hp]) (fun p hp => lA' p (List.mem_cons_of_mem _ hp)) (fun p hp => lT' p (List.mem_cons_of_mem _ hp)) (neG hI List.mem_cons_self) ho hz fun h' F' N' => h h' F' N' (fun p hp => lA' p (List.mem_cons_of_mem _ hp)) (fun p hp => lT' p (List.mem_cons_of_mem _ hp)) ?_
  intro p hp
  rcases List.mem_cons.mp hp with rfl | hp
  · exact neG hI List.mem_cons_self
  rcases List.mem_cons.mp hp with rfl | hp
  · exact Nat.ne_of_gt (lA' _ List.mem_cons_self)
  rcases List.mem_cons.mp hp with rfl | hp
  · exact Nat.ne_of_gt (lT' _ List.mem_cons_self)
  · exact hI p (List.mem_cons_of_mem _ hp)
end
end
section
open PySem PySem.W PyProof.Rows PySem.Calls PySem.Spec
theorem words_R3 : True := by
  w_top off
  k_with_none
  k_with "mine room" => ((simp only [depth_under_make, depth_under_kw, depth_in1, depth_deeper, depth_caller, recursionLimit] at *; (try dsimp only [ktrTop] at *); omega))
  k_with "mine enter" => ((refine wpAny_call ?_; first
  | (refine' code_def ?y2k1 ?y2k2 ?y2k3 ?y2k4 ?y2k5 ?y2kA ?y2kF ?y2kK ?y2k6 ?y2k7 ?y2k8 ?y2k9 ?y2kB ?_ ?y2c2 ?y2c3 ?y2c4 ?y2c5; (case y2kA => exact rfl); (case y2kF => exact rfl); (case y2kK => first | exact rfl | assumption); (case y2k1 => k_asm); (case y2k2 => k_asm); (case y2k3 => k_asm); (case y2k4 => k_asm); (case y2k5 => k_asm); (case y2k6 => k_is); (case y2k7 => k_is); (case y2k8 => walk_at "mine room"); (case y2k9 => first | exact BindsTo.of_eq rfl | exact binds_K (by k_in) rfl (by k_is) rfl rfl rfl); (case y2c5 => decide); (case y2kB => exact locs rfl); (case y2c2 => exact rfl); (case y2c3 => exact rfl); (case y2c4 => exact rfl); k_whole; intro w9g' w9L' w9h' w9FG' w9F' w9N' w9B' w9X' w9T'; (try dsimp only); (try k_lift w9B'); (try k_fold))
  | (refine' code_defC ?y2k1 ?y2k2 ?y2k3 ?y2k4 ?y2k5 ?y2kA ?y2kF ?y2kK ?y2k6 ?y2k7 ?y2k8 ?y2k9 ?y2kB ?y2kD ?_ ?y2c2 ?y2c3 ?y2c4; (case y2kA => exact rfl); (case y2kF => exact rfl); (case y2kK => first | exact rfl | assumption); (case y2k1 => k_asm); (case y2k2 => k_asm); (case y2k3 => k_asm); (case y2k4 => k_asm); (case y2k5 => k_asm); (case y2k6 => k_is); (case y2k7 => k_is); (case y2k8 => walk_at "mine room"); (case y2k9 => first | exact BindsTo.of_eq rfl | exact binds_K (by k_in) rfl (by k_is) rfl rfl rfl); (case y2kB => exact rfl); (case y2kD => decide +kernel); (case y2c2 => exact rfl); (case y2c3 => exact rfl); (case y2c4 => exact rfl); k_whole; intro w9g' w9L' w9h' w9tk' w9cells' w9FG' w9F' w9N' w9Y' w9B' w9X' w9T' w9l1; (try k_lt w9l1); k_cells w9Y'; (try simp only [List.cons_append, List.nil_append] at w9N'); (try dsimp only); (try k_lift w9B'); (try k_fold))))
  k_with "call ref" => ((k_here; k_dflt (walk_at "mine enter")))
  k_with "execs cons" => ((k_here; (try k_gentoks); (try dsimp only); (with_reducible refine wpAny_execs_cons ?_); (try dsimp only); k_fold))
  k_with "mine bound" => (first | omega | exact Int.fmod_nonneg_of_pos _ (by decide) | exact Int.fmod_lt_of_pos _ (by decide))
  k_with "mine short" => (first | exact Nat.le_of_ble_eq_true rfl | ((try simp only [PySem.Str.length_append]); (try kopn_lits); omega))
  k_with "mine open" => ((fail_if_success (with_reducible show wpAny _ _ (subscriptTail _ (Expr.Constant _ _ _) _ _) _ _ _)))
  k_with "subscriptTail" => ((k_here; (with_reducible show wpAny _ _ (subscriptTail _ _ (Value.ref _) (Value.int _ _)) _ _ _); walk_at "mine open"; k_dflt (first
  | (refine item_pickS4 3 (by k_asm) (List.Mem.head _) (by walk_at "mine bound") (by walk_at "mine bound") (by walk_at "mine short") (by walk_at "mine short") (by walk_at "mine short") (by walk_at "mine short") ?_; intro _ _)
  | (refine item_pickS4 60 (by k_asm) (List.Mem.head _) (by walk_at "mine bound") (by walk_at "mine bound") (by walk_at "mine short") (by walk_at "mine short") (by walk_at "mine short") (by walk_at "mine short") ?_; intro _ _)
  | (refine item_pickS2 (by k_asm) (List.Mem.head _) (by walk_at "mine bound") (by walk_at "mine bound") (by walk_at "mine short") (by walk_at "mine short") ?_; intro _ _)
  | (refine item_pickI2 (by k_asm) (List.Mem.head _) (by walk_at "mine bound") (by walk_at "mine bound") ?_; intro _))))
  k_with "mine mem" => (first | exact List.Mem.head _ | (refine List.Mem.tail _ ?_; walk_at "mine mem"))
  k_with "pyIter ref" => (((with_reducible show wpAny _ _ (pyIter (Value.ref _)) (fun it s₂ => LoopAtV _ _ _ _ _ _ _ _ _ it s₂) _ _); with_unfolding_all refine iter_listUnr (by rfl) (by k_asm) (by k_asm) (by walk_at "mine mem") (by rfl) (by rfl) ?_; intro w9i' w9l1))
  k_with "UnrEnd" => ((refine unrEnd_of (by k_asm) (by k_asm) (by assumption) ⟨by walk_at "mine mem", ?_⟩))
  k_with "pyIter ref" => (((with_reducible show wpAny _ _ (pyIter (Value.ref _)) (fun it s₂ => TurnsAt _ _ _ _ _ _ _ _ _ it s₂) _ _); with_unfolding_all refine iter_listTurns (by rfl) (by k_asm) (by k_asm) (by walk_at "mine mem") (by rfl) (by rfl) ?_; intro w9i' w9l1))
  k_with "UnrEndW" => ((refine unrEndW_of (by k_asm) (by k_asm) (by assumption) ⟨⟨by walk_at "mine mem", trivial⟩, ?_⟩))
  k_with "mine sub" => ((intro w9p w9hp; first | exact w9hp | (simp only [List.mem_cons, List.mem_append] at w9hp ⊢; first | (simp only [w9hp, true_or, or_true]; done) | (rcases w9hp with w9hp | w9hp <;> simp only [w9hp, true_or, or_true] <;> done))))
  k_with "exec For Name Call cons nil" => ((k_here; (rename Fr _ _ _ _ => w9lF'); k_dflt ((with_unfolding_all refine' For_range1 w9lF' ?y34k0 ?y34k1 ?y34k2 ?_); (case y34k0 => exact rfl); (case y34k1 => exact rfl); (case y34k2 => exact rfl); k_whole)))
  k_with "exec For Name Name cons nil" => ((k_here; (rename Fr _ _ _ _ => w9lF'); k_dflt ((with_unfolding_all refine' For_list1 w9lF' ?y35k0 ?y35k1 ?y35k2 ?_); (case y35k0 => exact rfl); (case y35k1 => exact rfl); (case y35k2 => exact rfl); k_whole)))
  k_with "call builtin:list.append" => ((apply StopR.out))
  k_with "mine in" => (first | (with_reducible assumption) | exact List.mem_cons_self | (refine List.mem_cons_of_mem _ ?_; walk_at "mine in") | (refine List.mem_append.mpr (.inr ?_); walk_at "mine in"))
  k_with "binaryOp Pow int int" => ((k_here; refine pow_two (by omega) ?_; intro _ _))
  k_with "call builtin:len" => ((k_here; (with_reducible show wpAny _ _ (call (Value.builtin _) [Value.ref _]) _ _ _); refine len_led (by k_asm) (by walk_at "mine in") (by omega) ?_; intro _ _))
  k_with "binaryOp Add ref ref" => ((k_here; (with_reducible show wpAny _ _ (binaryOp _ (Value.ref _) (Value.ref _)) _ _ _); refine add_led (by k_asm) (by k_asm) (by walk_at "mine in") (by walk_at "mine in") ?_ (by simp only [List.length_append, List.length_take, List.length_drop, Array.length_toList, List.length_cons, List.length_nil, sizeLine_eq]; omega); intro w9D' w9h' w9F' w9N' w9l1))
  k_with "subscriptTail" => ((k_here; (with_reducible show wpAny _ _ (subscriptTail _ _ (Value.ref _) (Value.int (Nat.cast _) _)) _ _ _); refine item_at (by k_asm) (by walk_at "mine in") (by omega) (by omega) (by with_reducible assumption) ?_))
  k_with "subscriptTail Name Slice ref ref" => ((k_here; (with_reducible show wpAny _ _ (subscriptTail _ (PySem.Expr.Slice none _ none _) (Value.ref _) (Value.ref _)) _ _ _); k_dflt (refine' slice_to ?y42F ?y42N ?y42m ?y42z ?y42x ?_ ?y42s ?y42t; (case y42F => k_asm); (case y42N => k_asm); (case y42m => walk_at "mine in"); (case y42z => with_reducible assumption); (case y42x => exact rfl); (case y42s => with_unfolding_all rfl); (case y42t => kmk_pure)); intro w9D' w9h' w9F' w9N' w9l1))
  k_with "subscriptTail Name Slice ref ref" => ((k_here; (with_reducible show wpAny _ _ (subscriptTail _ (PySem.Expr.Slice (some _) none none _) (Value.ref _) (Value.ref _)) _ _ _); k_dflt (refine' slice_from ?y43F ?y43N ?y43m ?y43z ?y43x ?_ ?y43s ?y43t; (case y43F => k_asm); (case y43N => k_asm); (case y43m => walk_at "mine in"); (case y43z => with_reducible assumption); (case y43x => exact (Int.natCast_add _ 1).symm); (case y43s => with_unfolding_all rfl); (case y43t => kmk_pure)); intro w9D' w9h' w9F' w9N' w9l1))
  trivial
noncomputable def StopR (P : Prop) : Prop := P
theorem StopR.out {P : Prop} (h : StopR P) : P := h
local macro_rules | `(tactic| k_all) => `(tactic| with_reducible assumption)
set_option maxHeartbeats 8000000 in
theorem ring_c {w : World} {mean : ExcName → Option Value} {mg mb : Str → Option Value} {news : List (Addr × Obj)} :
    Claim w mean mg mb 8 167 [] news (fun v tl => ∃ a its n, v = .ref a ∧ (a, W.listOf its n) ∈ tl ∧ NestL tl its.toList (ringR 4)) := by
  delta Claim; k_fill
  intro dp un gd cn cs a ccd cl outer A₀ base h₀ L m s Q E B F X N T hk hd hu hret
  walk_at "mine enter"
  k_steps
  (rename Fr _ _ _ _ => lF'); (rename News _ _ _ _ => lN')
  refine' ⟨_, 0, 4, _, _, _, 4, _, _, JR news, rfl, rfl, ?ir, ?sm, ?rs, lF', lN', ⟨_, _, _, [(_, _)], rfl, rfl, ⟨_, #[], 0, rfl, List.mem_cons_self, trivial⟩, trivial⟩, ?step, ?fin⟩
  case ir => with_reducible assumption
  case sm => decide
  case rs => decide
  case fin =>
    intro h9 tk9 m9 news9 hJ F9 N9
    obtain ⟨a, its, n, tl, hm, rfl, hR⟩ := hJ
    obtain ⟨m2, rfl⟩ := m_is1 hm
    show wpAny _ _ _ _ _ _
    k_steps
    (rename Fr _ _ _ _ => f9); (rename News _ _ _ _ => n9)
    exact hret _ ((a, W.listOf its n) :: tl) _ _ f9 n9 ⟨a, its, n, rfl, List.mem_cons_self, hR.mono fun p hp => List.mem_cons_of_mem _ hp⟩
  case step =>
    intro k m₁ news₁ I oI t' h' tk' E' hi hJ off' F' N'
    obtain ⟨a, its, n, tl, hm, rfl, hR⟩ := hJ
    obtain ⟨m2, rfl⟩ := m_is1 hm
    simp only [Int.zero_add] at F'
    k_steps
    (rename Fr _ _ _ _ => lF'); (rename News _ _ _ _ => lN')
    have lG := ‹_ ∧ _ ∧ AllLt _ _›
    have hR6 := ring_size k hi
    replace lG : AllLt _ ((I, oI) :: (a, W.listOf its n) :: (tl ++ news)) := lG
    have lG' : ∀ p ∈ (I, oI) :: (a, W.listOf its n) :: (tl ++ news), p.1 ≠ _ := fun p hp => Nat.ne_of_lt (allLt_mem lG p hp)
    have hkeep : ∀ p ∈ tl, p ∈ (I, oI) :: (a, W.listOf its n) :: (tl ++ news) := fun p hp => by simp [hp]
    have hra := ring_row k hi
    refine' ⟨a, its, _, _, fun i => JG _ ((I, oI) :: (a, W.listOf its n) :: (tl ++ news)) tl (mf2 _ k t') (((ringR k).take i).flatMap (growRow k)) 24, rfl, rfl, lF', lN', ?hS, ⟨#[], 0, [], ⟨rfl, rfl⟩, rfl, (fun _ h => nomatch h), lG', trivial, by decide⟩, ?step2, ?fin2⟩
    case hS =>
      intro i m led hJ
      obtain ⟨gs, gn, tl2, _, rfl, _⟩ := hJ
      exact .inr ⟨W.listOf its n, by simp, rfl, n, rfl⟩
    case fin2 =>
      intro h9 tk9 m9 news9 hJ9 F9 N9
      obtain ⟨gs, gn, tl2, ⟨hm1, hm2⟩, rfl, hd2, ho2, hN2, hc2⟩ := hJ9
      obtain ⟨m4, rfl⟩ := m_is2 hm1 hm2
      show wpAny _ _ _ _ _ _
      k_steps
      (rename Fr _ _ _ _ => f9); (rename News _ _ _ _ => n9)
      have hG : _ ≠ I := Nat.ne_of_gt (allLt_mem lG _ List.mem_cons_self)
      refine ⟨.inl rfl, _, _, _, (_, W.listOf gs gn) :: ((tl2 ++ ((a, W.listOf its n) :: tl)) ++ news), rfl, f9, fun p hp => n9 p ?_, fun p hp => ?_, _, gs, gn, tl2 ++ ((a, W.listOf its n) :: tl), rfl, rfl, ?_⟩
      · simp only [List.mem_cons, List.mem_append] at hp ⊢
        rcases hp with hp | hp | (hp | hp | hp) | hp <;> simp [hp]
      · simp only [List.mem_cons, List.mem_append] at hp
        rcases hp with rfl | (hp | hp | hp) | hp
        · exact hG
        · exact hd2 p hp _ List.mem_cons_self
        · exact off' p (by simp [hp])
        · exact off' p (by simp [hp])
        · exact off' p (by simp [hp])
      · have e : its.size = (ringR k).length := by rw [← Array.length_toList]; exact hR.len
        rw [e, List.take_length] at hN2
        refine hN2.mono fun p hp => ?_
        simp only [List.mem_cons, List.mem_append] at hp ⊢
        rcases hp with hp | hp <;> simp [hp]
    case step2 =>
      intro i v m₃ news₃ I2 oI2 h3 tk3 E3 hv hJ3 off3 F3 N3
      obtain ⟨gs, gn, tl2, ⟨hm1, hm2⟩, rfl, hd2, ho2, hN2, hc2⟩ := hJ3
      obtain ⟨b, is, nb, row, rfl, hrow, hmem, htup⟩ := hR.at (i := i) (v := v) (by rw [Array.getElem?_toList]; exact hv)
      obtain ⟨hrl, hrb⟩ := hra row (List.mem_of_getElem? hrow)
      have his : is.size ≤ 3 := by rw [← Array.length_toList, htup.len]; exact hrl
      replace hmem := hkeep _ hmem
      generalize hgk : (I, oI) :: (a, W.listOf its n) :: (tl ++ news) = keep at hkeep hmem hd2 ho2 off3 N3 lG ⊢
      obtain ⟨m4, rfl⟩ := m_is2 hm1 hm2
      have his5 : is.size ≤ 5 := by omega
      k_steps
      apply StopR.out
      (rename Fr _ _ _ _ => f9); (rename News _ _ _ _ => n9); (rename ∀ p ∈ _, _ < _ => lA9); (rename _ < _ ∧ _ < _ ∧ AllLt _ _ => lT0)
      refine app_first f9 n9 lA9 lT0 (neG off3 List.mem_cons_self) ho2 (by omega) fun h' F' N' lA1 lT1 => ?_
      clear lA9 lT0 n9 f9
      k_steps
      (rename Fr _ _ _ _ => f9); (rename News _ _ _ _ => n9); (rename IsRange _ _ _ _ _ _ _ _ => r9)
      have e1 := ring_len k hi i (by have := (List.getElem?_eq_some_iff.mp hrow).1; omega)
      refine' ⟨_, 0, (is.size : Int), _, _, _, is.size, _, _, fun p => JG _ ((I2, oI2) :: (tl2 ++ keep)) (tl2 ++ tl) (mf3 _ k t' b) (((ringR k).take i).flatMap (growRow k) ++ [row ++ [(2 ^ k, 1)]] ++ placeRows k row p) (25 + 4 * p), rfl, rfl, r9, (range_ok (by omega)).1, (range_ok (by omega)).2, f9, ?lN, ?j0, ?step3, ?fin3⟩
      case lN => exact led_first n9
      case j0 =>
        refine jg_first (neG off3 List.mem_cons_self) ho2 hN2 hc2 lA1 lT1 htup ?_
        exact ⟨rfl, rfl, rfl⟩
      case fin3 =>
        intro h9 tk9 m9 news9 hJ9 F9 N9
        show wpAny _ _ _ _ _ _
        refine wpAny_execs_nil ?_
        obtain ⟨led', N', off', J'⟩ := jg_pop (mf' := mf2 _ k t') (m' := m9) hJ9 N9 hd2 (fun q hq => off3 q (List.mem_cons_of_mem _ hq)) (neG off3 List.mem_cons_self) (fun h => ⟨h.1, h.2.1⟩)
        refine ⟨.inl rfl, _, _, _, led', rfl, F9, N', off', J'.recount (row_end hrow (by rw [← htup.len, Array.length_toList])) ?_⟩
        exact ring_len k hi (i + 1) (by have := (List.getElem?_eq_some_iff.mp hrow).1; omega)
      case step3 =>
        clear lA1 lT1 n9 f9 r9
        intro p m5 news5 I3 oI3 tp h5 tk5 E5 hp hJ5 off5 F5 N5
        simp only [Int.zero_add] at F5
        obtain ⟨gs5, gn5, tl3, ⟨hm1, hm2, hm3⟩, rfl, hd3, ho5, hN3, hc3⟩ := hJ5
        replace hmem : (b, W.listOf is nb) ∈ tl3 ++ ((I2, oI2) :: (tl2 ++ keep)) := by simp [hmem]
        obtain ⟨bt, ta, tb, hat, htm, hrw⟩ := htup.at (i := p) (by rw [Array.length_toList]; exact hp)
        obtain ⟨b1, b2, b3, b4⟩ := hrb _ hrw
        replace htm := mem_up (tl3 := tl3) (x := (I2, oI2)) (tl2 := tl2) (hkeep _ htm)
        generalize hr1 : (row.getD p (0, 0)).1 = ms at htm b1 b2
        obtain ⟨z, hr2⟩ : ∃ z : Nat, (row.getD p (0, 0)).2 = (z : Int) := ⟨(row.getD p (0, 0)).2.toNat, by omega⟩
        rw [hr2] at htm b3 b4
        replace hat : is[((p : Nat) : Int).toNat]? = some (.ref bt) := by rw [Int.toNat_natCast, ← Array.getElem?_toList]; exact hat
        obtain ⟨m6, rfl⟩ := m_is3 hm1 hm2 hm3
        replace N5 := news_ins [(bt, tup2 ms z ta tb)] N5 (List.forall_mem_cons.mpr ⟨htm, List.forall_mem_nil _⟩)
        simp only [List.cons_append, List.nil_append] at N5
        generalize hkp : (I2, oI2) :: (tl2 ++ keep) = keepP at hmem hd3 ho5 N5 off5 ⊢
        k_steps
        (rename Fr _ _ _ _ => f9); (rename News _ _ _ _ => n9); (rename IsRange _ _ _ _ _ _ _ _ => r9)
        refine' ⟨_, 0, (z : Int), _, _, _, z, _, _, fun t => JG _ ((I3, oI3) :: (tl3 ++ keepP)) (tl3 ++ (tl2 ++ tl)) (mf6 _ k t' b p tp ms ta z tb) (((ringR k).take i).flatMap (growRow k) ++ [row ++ [(2 ^ k, 1)]] ++ placeRows k row p ++ List.replicate t (newRow k row p)) (25 + 4 * p + t), rfl, rfl, r9, (range_ok (by omega)).1, (range_ok (by omega)).2, f9, ?lN, ?j0, ?step4, ?fin4⟩
        case lN => exact led_turn n9
        case j0 =>
          refine jg_turn (neG off5 List.mem_cons_self) ho5 hN3 hc3 ?_
          exact ⟨rfl, rfl, rfl, rfl, rfl, rfl⟩
        case fin4 =>
          intro h9 tk9 m9 news9 hJ9 F9 N9
          show wpAny _ _ _ _ _ _
          refine wpAny_execs_nil ?_
          obtain ⟨led', N', off', J'⟩ := jg_pop (mf' := mf3 _ k t' b) (m' := m9) hJ9 N9 hd3 (fun q hq => off5 q (List.mem_cons_of_mem _ hq)) (neG off5 List.mem_cons_self) (fun h => ⟨h.1, h.2.1, h.2.2.1⟩)
          refine ⟨.inl rfl, _, _, _, led', rfl, F9, N', off', J'.mono (fun h => h) ?_ (by omega)⟩
          rw [placeRows_succ, hr2, Int.toNat_natCast, List.append_assoc]
        case step4 =>
          clear n9 f9 r9
          intro t m7 news7 I4 oI4 tt h7 tk7 E7 ht hJ7 off7 F7 N7
          obtain ⟨gs7, gn7, tl4, ⟨hm1, hm2, hm3, hm4, hm5, hm6⟩, rfl, hd7, ho7, hN7, hc7⟩ := hJ7
          obtain ⟨m8, rfl⟩ := m_is6 hm1 hm2 hm3 hm4 hm5 hm6
          replace hmem := mem_up (tl3 := tl4) (x := (I3, oI3)) (tl2 := []) hmem
          rw [List.nil_append] at hmem
          generalize hkt : (I3, oI3) :: (tl3 ++ keepP) = keepT at hmem hd7 ho7 N7 off7 ⊢
          k_steps
          apply StopR.out
          (rename Fr _ _ _ _ => f9); (rename News _ _ _ _ => n9); (rename ∀ p ∈ _ :: _ :: _ :: _ :: _ :: _ :: _ :: _, _ < _ => lA9); (rename _ < _ ∧ _ < _ ∧ _ < _ ∧ AllLt _ _ => lT0)
          refine app_turn f9 n9 lA9 lT0 off7 ho7 (by omega) fun h' F' N' lA1 lT1 off8 => ?_
          refine wpAny_execs_nil ?_
          refine ⟨.inl rfl, _, _, _, _, rfl, F', N', off8, ?_⟩
          refine jg_push2 hd7 ho7 hN7 hc7 lA1 lT1 (new_tups (k := k) htup (fun q hq => by simp [hq]) hr1 hr2) ?_ ?_ ?_
          · rw [List.append_assoc, ← List.replicate_succ']
          · exact Nat.le_refl _
          · exact ⟨rfl, rfl, rfl, rfl, rfl, rfl⟩
end
section
open PySem PySem.W PyProof.Rows PySem.Calls PySem.Spec
open LCg LCt
section
variable {prog : Program} {w : World} {A : Around} {E : Value → Shared → Prop} {s : Shared} {h₀ : Heap} {L : Addr} {m : Str → Option Value} {env : Env}
theorem compEnd_mono {s₁ : Shared} {I C D : Addr} {oI oC oD : Obj} {S : List (Addr × Obj) → Prop} {r r' : Value → List (Addr × Obj) → Prop} {y : Value} {s₂ : Shared} (h : CompEnd h₀ L m s₁ I oI C oC D oD S r y s₂) (k : ∀ n, r y n → r' y n) : CompEnd h₀ L m s₁ I oI C oC D oD S r' y s₂ := by
  obtain ⟨h', tk, n, e, F, N, o, hS, hr⟩ := h
  exact ⟨h', tk, n, e, F, N, o, hS, k _ hr⟩
/-- a turn of a comprehension with one test -/
noncomputable def TurnT (prog : Program) (w : World) (A : Around) (h₀ : Heap) (L : Addr) (m : Str → Option Value) (env : Env) (ct elt : Expr) (x : Str) (scope : Scope) (cl : List (Str × Addr)) (s : Shared) (S : List (Addr × Obj) → Prop) (P : Nat → Value → Prop) (n : Nat) (Inv : Nat → List Value → List (Addr × Obj) → Prop) : Prop :=
  ∀ i ys news v I oI C oC D m₂ h tk (E' : Value → Shared → Prop), i < n → Inv i ys news → P i v → NsObj oC m₂ → m₂ x = some v → Fr h₀ L h m → News h₀ L h ((I, oI) :: (C, oC) :: (D, lst ys) :: news) → Off3 I C D news → ((@Ne Nat I C) ∧ (@Ne Nat I D) ∧ (@Ne Nat C D)) →
    wpAny (model prog w) A (isTrue ct (compEnvC scope cl C env) (eval ct (compEnvC scope cl C env))) (fun ok s' => if ok = true then
      wpAny (model prog w) A (eval elt (compEnvC scope cl C env)) (CompEnd h₀ L m { s with heap := h, toks := tk } I oI C oC D (lst ys) S (fun y news' => Inv (i + 1) (ys ++ [y]) news')) E' s'
      else CompEnd h₀ L m { s with heap := h, toks := tk } I oI C oC D (lst ys) S (fun _ news' => Inv (i + 1) ys news') Value.none s') E' { s with heap := h, toks := tk }
theorem restT_ind {ct elt : Expr} {x : Str} {scope : Scope} {cl : List (Str × Addr)} {S : List (Addr × Obj) → Prop} {P : Nat → Value → Prop} {Fin : List Value → List (Addr × Obj) → Prop} {n : Nat} (Inv : Nat → List Value → List (Addr × Obj) → Prop)
    (T : TurnT prog w A h₀ L m env ct elt x scope cl s S P n Inv) (fin : ∀ ys news, Inv n ys news → Fin ys news) : ∀ (k i : Nat) (ys : List Value) (news : List (Addr × Obj)), i + k = n → Inv i ys news → CompRestT prog w A h₀ L m env ct elt x scope cl s S P Fin k i ys news
  | 0, i, ys, news, e, h => CompRestT.zero (fin _ _ (by rw [← e]; exact h))
  | k + 1, i, ys, news, e, h => CompRestT.succ fun v I oI C oC D m₂ h' tk E' hP hC hx F N off ne =>
    wpAny_mono (T i ys news v I oI C oC D m₂ h' tk E' (by omega) h hP hC hx F N off ne) (fun ok s' hs => by
      cases ok with
      | true =>
        simp only [if_true] at hs ⊢
        exact wpAny_mono hs (fun y s'' hq => compEnd_mono hq fun n hn => restT_ind Inv T fin k (i + 1) _ n (by omega) hn) fun _ _ e => e
      | false =>
        simp only [Bool.false_eq_true, if_false] at hs ⊢
        exact compEnd_mono hs fun n hn => restT_ind Inv T fin k (i + 1) _ n (by omega) hn) fun _ _ e => e
/-- a turn of one without a test -/
noncomputable def TurnU (prog : Program) (w : World) (A : Around) (h₀ : Heap) (L : Addr) (m : Str → Option Value) (env : Env) (elt : Expr) (x : Str) (scope : Scope) (cl : List (Str × Addr)) (s : Shared) (S : List (Addr × Obj) → Prop) (P : Nat → Value → Prop) (n : Nat) (Inv : Nat → List Value → List (Addr × Obj) → Prop) : Prop :=
  ∀ i ys news v I oI C oC D m₂ h tk (E' : Value → Shared → Prop), i < n → Inv i ys news → P i v → NsObj oC m₂ → m₂ x = some v → Fr h₀ L h m → News h₀ L h ((I, oI) :: (C, oC) :: (D, lst ys) :: news) → Off3 I C D news → ((@Ne Nat I C) ∧ (@Ne Nat I D) ∧ (@Ne Nat C D)) →
    wpAny (model prog w) A (eval elt (compEnvC scope cl C env)) (CompEnd h₀ L m { s with heap := h, toks := tk } I oI C oC D (lst ys) S (fun y news' => Inv (i + 1) (ys ++ [y]) news')) E' { s with heap := h, toks := tk }
theorem restU_ind {elt : Expr} {x : Str} {scope : Scope} {cl : List (Str × Addr)} {S : List (Addr × Obj) → Prop} {P : Nat → Value → Prop} {Fin : List Value → List (Addr × Obj) → Prop} {n : Nat} (Inv : Nat → List Value → List (Addr × Obj) → Prop)
    (T : TurnU prog w A h₀ L m env elt x scope cl s S P n Inv) (fin : ∀ ys news, Inv n ys news → Fin ys news) : ∀ (k i : Nat) (ys : List Value) (news : List (Addr × Obj)), i + k = n → Inv i ys news → CompRest prog w A h₀ L m env elt x scope cl s S P Fin k i ys news
  | 0, i, ys, news, e, h => CompRest.zero (fin _ _ (by rw [← e]; exact h))
  | k + 1, i, ys, news, e, h => CompRest.succ fun v I oI C oC D m₂ h' tk E' hP hC hx F N off ne =>
    wpAny_mono (T i ys news v I oI C oC D m₂ h' tk E' (by omega) h hP hC hx F N off ne) (fun y s'' hq => compEnd_mono hq fun n hn => restU_ind Inv T fin k (i + 1) _ n (by omega) hn) fun _ _ e => e
/-- over a range -/
theorem srcT_range {ct elt : Expr} {x : Str} {scope : Scope} {cl : List (Str × Addr)} {Fin : Shared → List Value → List (Addr × Obj) → Prop} {r : Addr} {a b : Int} {t u v : Tok} {n : Nat} {news : List (Addr × Obj)} {s₁ : Shared} (Inv : Nat → List Value → List (Addr × Obj) → Prop)
    (hh : A.handled = none) (F : Fr h₀ L s₁.heap m) (N : News h₀ L s₁.heap news) (hr : IsRange s₁.heap r a b 1 t u v) (hsm : Builtin.Range.small a b 1 = true) (hn : Builtin.Range.rangeSize a b 1 = ((n : Nat) : Int)) (hsz : n ≤ sizeLine) (h0 : Inv 0 [] news)
    (T : ∀ g, TurnT prog w A h₀ L m env ct elt x scope cl { s₁ with heap := g } (fun _ => True) (fun i v => ∃ t, v = .int (a + (i : Int)) t) n Inv) (fin : ∀ g ys news, Inv n ys news → Fin { s₁ with heap := g } ys news) :
    CompSrcT prog w A h₀ L m env ct elt x scope cl Fin (.ref r) s₁ :=
  CompSrcT.range hh F N hr hsm hn hsz fun g => restT_ind Inv (T g) (fin g) n 0 [] news (Nat.zero_add n) h0
theorem srcT_list {ct elt : Expr} {x : Str} {scope : Scope} {cl : List (Str × Addr)} {Fin : Shared → List Value → List (Addr × Obj) → Prop} {ax : Addr} {its : Array Value} {k : Nat} {news : List (Addr × Obj)} {s₁ : Shared} (Inv : Nat → List Value → List (Addr × Obj) → Prop)
    (hh : A.handled = none) (F : Fr h₀ L s₁.heap m) (N : News h₀ L s₁.heap news) (hm : (ax, ({ cls := .type "list", data := .seq its k } : Obj)) ∈ news) (hsz : its.size ≤ sizeLine) (h0 : Inv 0 [] news)
    (T : ∀ g, TurnT prog w A h₀ L m env ct elt x scope cl { s₁ with heap := g } (SrcAt h₀ ax its) (fun i v => its[i]? = some v) its.size Inv) (fin : ∀ g ys news, Inv its.size ys news → Fin { s₁ with heap := g } ys news) :
    CompSrcT prog w A h₀ L m env ct elt x scope cl Fin (.ref ax) s₁ :=
  CompSrcT.ledger hh F N hm hsz fun g => restT_ind Inv (T g) (fin g) its.size 0 [] news (Nat.zero_add _) h0
theorem srcU_range {elt : Expr} {x : Str} {scope : Scope} {cl : List (Str × Addr)} {Fin : Shared → List Value → List (Addr × Obj) → Prop} {r : Addr} {a b : Int} {t u v : Tok} {n : Nat} {news : List (Addr × Obj)} {s₁ : Shared} (Inv : Nat → List Value → List (Addr × Obj) → Prop)
    (hh : A.handled = none) (F : Fr h₀ L s₁.heap m) (N : News h₀ L s₁.heap news) (hr : IsRange s₁.heap r a b 1 t u v) (hsm : Builtin.Range.small a b 1 = true) (hn : Builtin.Range.rangeSize a b 1 = ((n : Nat) : Int)) (hsz : n ≤ sizeLine) (h0 : Inv 0 [] news)
    (T : ∀ g, TurnU prog w A h₀ L m env elt x scope cl { s₁ with heap := g } (fun _ => True) (fun i v => ∃ t, v = .int (a + (i : Int)) t) n Inv) (fin : ∀ g ys news, Inv n ys news → Fin { s₁ with heap := g } ys news) :
    CompSrc prog w A h₀ L m env elt x scope cl Fin (.ref r) s₁ :=
  CompSrc.range hh F N hr hsm hn hsz fun g => restU_ind Inv (T g) (fin g) n 0 [] news (Nat.zero_add n) h0
theorem srcU_list {elt : Expr} {x : Str} {scope : Scope} {cl : List (Str × Addr)} {Fin : Shared → List Value → List (Addr × Obj) → Prop} {ax : Addr} {its : Array Value} {k : Nat} {news : List (Addr × Obj)} {s₁ : Shared} (Inv : Nat → List Value → List (Addr × Obj) → Prop)
    (hh : A.handled = none) (F : Fr h₀ L s₁.heap m) (N : News h₀ L s₁.heap news) (hm : (ax, ({ cls := .type "list", data := .seq its k } : Obj)) ∈ news) (hsz : its.size ≤ sizeLine) (h0 : Inv 0 [] news)
    (T : ∀ g, TurnU prog w A h₀ L m env elt x scope cl { s₁ with heap := g } (SrcAt h₀ ax its) (fun i v => its[i]? = some v) its.size Inv) (fin : ∀ g ys news, Inv its.size ys news → Fin { s₁ with heap := g } ys news) :
    CompSrc prog w A h₀ L m env elt x scope cl Fin (.ref ax) s₁ :=
  CompSrc.ledger hh F N hm hsz fun g => restU_ind Inv (T g) (fin g) its.size 0 [] news (Nat.zero_add _) h0
end
end
section
open PySem PySem.W PyProof.Rows PySem.Calls PySem.Spec
/-- the sum of the steps in a mask -/
noncomputable def sumsAt (s0 s1 s2 s3 : Int) (m : Nat) : Int := (if m % 2 = 1 then s0 else 0) + (if m / 2 % 2 = 1 then s1 else 0) + (if m / 4 % 2 = 1 then s2 else 0) + (if m / 8 % 2 = 1 then s3 else 0)
noncomputable def stp (s0 s1 s2 s3 : Int) (k : Nat) : Int := if k = 0 then s0 else if k = 1 then s1 else if k = 2 then s2 else s3
noncomputable abbrev bitM (m k : Nat) : Prop := m / 2 ^ k % 2 = 1
noncomputable def eAt (j k : Nat) : Nat := if k = j then 1 else 0
theorem ifb {x : Nat} (h : x < 2) (s : Int) : (if x = 1 then s else 0) = (x : Int) * s := by
  have : x = 0 ∨ x = 1 := by omega
  rcases this with rfl | rfl <;> simp
theorem lt2 (n : Nat) : n % 2 < 2 := Nat.mod_lt _ (by decide)
theorem sums_lin {s0 s1 s2 s3 : Int} (m : Nat) : sumsAt s0 s1 s2 s3 m = ((m % 2 : Nat) : Int) * s0 + ((m / 2 % 2 : Nat) : Int) * s1 + ((m / 4 % 2 : Nat) : Int) * s2 + ((m / 8 % 2 : Nat) : Int) * s3 := by
  rw [sumsAt, ifb (lt2 _), ifb (lt2 _), ifb (lt2 _), ifb (lt2 _)]
theorem stp_lin {s0 s1 s2 s3 : Int} {k : Nat} (h : k < 4) : stp s0 s1 s2 s3 k = ((eAt 0 k : Nat) : Int) * s0 + ((eAt 1 k : Nat) : Int) * s1 + ((eAt 2 k : Nat) : Int) * s2 + ((eAt 3 k : Nat) : Int) * s3 := by
  have : k = 0 ∨ k = 1 ∨ k = 2 ∨ k = 3 := by omega
  rcases this with rfl | rfl | rfl | rfl <;> simp [stp, eAt]
/-- the figures of n and the one of k make those of m -/
noncomputable abbrev figs (n k m : Nat) : Prop := n % 2 + eAt 0 k = m % 2 ∧ n / 2 % 2 + eAt 1 k = m / 2 % 2 ∧ n / 4 % 2 + eAt 2 k = m / 4 % 2 ∧ n / 8 % 2 + eAt 3 k = m / 8 % 2
theorem sums_figs {s0 s1 s2 s3 : Int} {n k m : Nat} (hk : k < 4) (h : figs n k m) : sumsAt s0 s1 s2 s3 n + stp s0 s1 s2 s3 k = sumsAt s0 s1 s2 s3 m := by
  rw [sums_lin, stp_lin hk, sums_lin, ← h.1, ← h.2.1, ← h.2.2.1, ← h.2.2.2]
  simp only [Int.natCast_add, Int.add_mul]
  omega
theorem figs_less : ∀ m : Fin 16, ∀ k : Fin 4, bitM m.val k.val → 2 ^ k.val ≤ m.val ∧ figs (m.val - 2 ^ k.val) k.val m.val := by decide +kernel
theorem sums_less {s0 s1 s2 s3 : Int} : ∀ m, m < 16 → ∀ k, k < 4 → bitM m k → 2 ^ k ≤ m ∧ sumsAt s0 s1 s2 s3 (m - 2 ^ k) + stp s0 s1 s2 s3 k = sumsAt s0 s1 s2 s3 m := fun m hm k hk h =>
  ⟨(figs_less ⟨m, hm⟩ ⟨k, hk⟩ h).1, sums_figs hk (figs_less ⟨m, hm⟩ ⟨k, hk⟩ h).2⟩
theorem bit_int {m k : Nat} (hm : m < 16) (hk : k < 4) : Int.fmod (Int.fdiv ((m : Nat) : Int) (2 ^ k)) 2 = 1 ↔ bitM m k := by
  have : ∀ m : Fin 16, ∀ k : Fin 4, Int.fmod (Int.fdiv ((m.val : Nat) : Int) (2 ^ k.val)) 2 = 1 ↔ bitM m.val k.val := by decide +kernel
  exact this ⟨m, hm⟩ ⟨k, hk⟩
theorem bit_some {m : Nat} (h0 : 0 < m) (hm : m < 16) : 0 < ((List.range 4).filter fun k => decide (bitM m k)).length := by
  have : ∀ m : Fin 16, 0 < m.val → 0 < ((List.range 4).filter fun k => decide (bitM m.val k)).length := by decide +kernel
  exact this ⟨m, hm⟩ h0
inductive JD (Dd : Addr) (keep : List (Addr × Obj)) (l1 : Addr) (s0 s1 s2 s3 : Int) (i : Nat) (m : Str → Option Value) (led : List (Addr × Obj)) : Prop
  | intro (its n) (f1 : m (Str.ofString "steps") = some (.ref l1)) (f2 : led = (Dd, W.listOf its n) :: keep) (f3 : IntsAre its.toList ((List.range (i + 1)).map (sumsAt s0 s1 s2 s3)))
/-- the comprehension's invariant -/
noncomputable def IvD (led0 : List (Addr × Obj)) (S : Int) (m : Nat) (k : Nat) (ys : List Value) (led : List (Addr × Obj)) : Prop :=
  led = led0 ∧ ∃ ns, IntsAre ys ns ∧ (∀ x ∈ ns, x = S) ∧ ns.length = ((List.range k).filter fun k => decide (bitM m k)).length
theorem filter_one {m k : Nat} : ([k].filter fun k => decide (bitM m k)) = if bitM m k then [k] else [] := by
  rw [List.filter_cons]
  by_cases h : bitM m k
  · rw [if_pos h, if_pos (decide_eq_true h)]; rfl
  · rw [if_neg h, if_neg (fun q => h (of_decide_eq_true q))]; rfl
theorem IvD.start {led0 : List (Addr × Obj)} {S : Int} {m : Nat} : IvD led0 S m 0 [] led0 := ⟨rfl, [], .nil, (fun _ h => nomatch h), rfl⟩
theorem IvD.yes {led0 led : List (Addr × Obj)} {S y : Int} {m k : Nat} {ys : List Value} {t : Tok} (h : IvD led0 S m k ys led) (b : bitM m k) (e : y = S) : IvD led0 S m (k + 1) (ys ++ [.int y t]) led := by
  obtain ⟨h1, ns, h2, h3, h4⟩ := h
  subst e
  refine ⟨h1, ns ++ [y], h2.append (.cons _ _ .nil), fun x hx => ?_, ?_⟩
  · rcases List.mem_append.mp hx with hx | hx
    · exact h3 x hx
    · exact List.mem_singleton.mp hx
  · rw [List.range_succ, List.filter_append, List.length_append, List.length_append, h4, filter_one, if_pos b]; rfl
theorem IvD.no {led0 led : List (Addr × Obj)} {S : Int} {m k : Nat} {ys : List Value} (h : IvD led0 S m k ys led) (b : ¬ bitM m k) : IvD led0 S m (k + 1) ys led := by
  obtain ⟨h1, ns, h2, h3, h4⟩ := h
  refine ⟨h1, ns, h2, h3, ?_⟩
  rw [List.range_succ, List.filter_append, List.length_append, h4, filter_one, if_neg b]; rfl
theorem sums_at {its : Array Value} {s0 s1 s2 s3 : Int} {i k : Nat} (hI : IntsAre its.toList ((List.range (i + 1)).map (sumsAt s0 s1 s2 s3))) (hi : i < 15) (hk : k < 4) (yes : bitM (i + 1) k) :
    0 ≤ ((i + 1 : Nat) : Int) - 2 ^ k ∧ ((i + 1 : Nat) : Int) - 2 ^ k < 2 ^ 63 ∧ ∃ t, its[(((i + 1 : Nat) : Int) - 2 ^ k).toNat]? = some (.int (sumsAt s0 s1 s2 s3 (i + 1 - 2 ^ k)) t) := by
  have h1 := (sums_less (s0 := s0) (s1 := s1) (s2 := s2) (s3 := s3) (i + 1) (by omega) k hk yes).1
  have e : ((i + 1 : Nat) : Int) - 2 ^ k = ((i + 1 - 2 ^ k : Nat) : Int) := by
    rw [Int.ofNat_sub h1]; simp
  have hp : 0 < 2 ^ k := Nat.two_pow_pos k
  rw [e, Int.toNat_natCast]
  refine ⟨Int.natCast_nonneg _, by omega, ?_⟩
  have hlt : i + 1 - 2 ^ k < ((List.range (i + 1)).map (sumsAt s0 s1 s2 s3)).length := by rw [List.length_map, List.length_range]; omega
  obtain ⟨t, ht⟩ := intsAre_get hI _ hlt
  refine ⟨t, ?_⟩
  rw [← Array.getElem?_toList, ht, List.getD_eq_getElem?_getD, List.getElem?_map, List.getElem?_range (by omega)]
  rfl
noncomputable def JT (D l1 : Addr) (LED : List (Addr × Obj)) (_ : Nat) (m : Str → Option Value) (led : List (Addr × Obj)) : Prop := m (Str.ofString "lasts") = some (.ref D) ∧ m (Str.ofString "steps") = some (.ref l1) ∧ led = LED
theorem ints_all {ys : List Value} {ns : List Int} {S : Int} (h : IntsAre ys ns) (e : ∀ x ∈ ns, x = S) {i : Nat} {v : Value} (hv : ys.toArray[i]? = some v) : ∃ t, v = .int S t := by
  rw [List.getElem?_toArray] at hv
  have hi := (List.getElem?_eq_some_iff.mp hv).1
  rw [intsAre_len h] at hi
  obtain ⟨t, ht⟩ := intsAre_get h i hi
  rw [hv] at ht
  have : ns.getD i 0 = S := by
    rw [List.getD_eq_getElem?_getD, List.getElem?_eq_getElem hi]
    exact e _ (List.getElem_mem hi)
  rw [this] at ht
  exact ⟨t, Option.some.inj ht⟩
theorem IvD.first {led0 led : List (Addr × Obj)} {S : Int} {m : Nat} {ys : List Value} (h : IvD led0 S m 4 ys led) (h0 : 0 < m) (hm : m < 16) : ∃ t, ys.toArray[Int.toNat 0]? = some (.int S t) := by
  obtain ⟨_, ns, h2, h3, h4⟩ := h
  have := bit_some h0 hm
  rw [← h4, ← intsAre_len h2] at this
  obtain ⟨v, hv⟩ : ∃ v, ys.toArray[0]? = some v := ⟨ys[0], by rw [List.getElem?_toArray, List.getElem?_eq_getElem this]⟩
  obtain ⟨t, rfl⟩ := ints_all h2 h3 hv
  exact ⟨t, hv⟩
theorem ints_push {its : Array Value} {s0 s1 s2 s3 : Int} {i : Nat} {t : Tok} (hI : IntsAre its.toList ((List.range (i + 1)).map (sumsAt s0 s1 s2 s3))) : IntsAre (its.push (.int (sumsAt s0 s1 s2 s3 (i + 1)) t)).toList ((List.range (i + 1 + 1)).map (sumsAt s0 s1 s2 s3)) := by
  rw [Array.toList_push, List.range_succ, List.map_append]
  exact hI.append (.cons _ _ .nil)
theorem sums_all {s0 s1 s2 s3 : Int} : ((List.range 16).map (sumsAt s0 s1 s2 s3)).getD (Int.toNat 15) 0 = [s0, s1, s2, s3].sum := by
  show sumsAt s0 s1 s2 s3 15 = s0 + (s1 + (s2 + (s3 + 0)))
  rw [sumsAt, if_pos (by decide), if_pos (by decide), if_pos (by decide), if_pos (by decide), Int.add_zero, Int.add_assoc, Int.add_assoc]
section
variable {prog : Program} {w : World} {A : Around} {E : Value → Shared → Prop} {s : Shared} {h₀ : Heap} {L l : Addr} {m : Str → Option Value} {news : List (Addr × Obj)} {value slice : PySem.Expr} {its : Array Value} {n : Nat} {a b x : Int} {t u : Tok} {Q : Value → Shared → Prop}
theorem pow_nat {k : Nat} (hb : b.natAbs < 2 ^ 64) (hk : k < 16) (h : ∀ t' j, Q (.int (b ^ k) t') { s with toks := j }) : wpAny (model prog w) A (binaryOp .Pow (.int b t) (.int (k : Int) u)) Q E s :=
  pow_int_small (Int.natCast_nonneg k) (by omega) hb (by rw [Int.toNat_natCast]; exact h _ _)
theorem pow_small : ∀ k, k < 16 → ((2 : Int) ^ k).natAbs.log2 < 9000 ∧ ((4 : Int) ^ k).natAbs.log2 < 9000 ∧ ((9 : Int) ^ k).natAbs.log2 < 9000 ∧ ((256 : Int) ^ k).natAbs.log2 < 9000 := by decide +kernel
theorem fdiv_nat (hb : b ≠ 0) (hs : b.natAbs.log2 < 9000) (h : ∀ t' j, Q (.int (a.fdiv b) t') { s with toks := j }) : wpAny (model prog w) A (binaryOp .FloorDiv (.int a t) (.int b u)) Q E s :=
  floordiv_int hb (h _ _) (Or.inl (PyProof.noPylong_of_log2 hs))
theorem app_depth {Dd I cm D : Addr} {oI oc oD : Obj} {keep : List (Addr × Obj)} {v : Value} (F : Fr h₀ L s.heap m) (N : News h₀ L s.heap ((D, oD) :: (I, oI) :: (cm, oc) :: (Dd, W.listOf its n) :: keep)) (lk : AllLt Dd keep) (off : ∀ p ∈ (Dd, W.listOf its n) :: keep, p.1 ≠ I ∧ p.1 ≠ cm) (hz : its.size ≤ 64)
    (h : ∀ h', Fr h₀ L h' m → News h₀ L h' ((I, oI) :: (cm, oc) :: (Dd, W.listOf (its.push v) (n + 1)) :: keep) → (∀ p ∈ (Dd, W.listOf (its.push v) (n + 1)) :: keep, p.1 ≠ I ∧ p.1 ≠ cm) → Q .none { s with heap := h' }) :
    wpAny (model prog w) A (call (.builtin "list.append") [.ref Dd, v]) Q E s := by
  have o0 := off _ List.mem_cons_self
  refine append_led (n := n) ((I, oI) :: (cm, oc) :: keep) F N (by simp) ?_ (fun h' F' N' => h h' F' (fun p hp => N' p ?_) fun p hp => ?_) (Nat.le_trans hz (by decide))
  · intro p hp
    rcases List.mem_cons.mp hp with rfl | hp
    · exact ⟨by simp, Ne.symm o0.1⟩
    rcases List.mem_cons.mp hp with rfl | hp
    · exact ⟨by simp, Ne.symm o0.2⟩
    · exact ⟨by simp [hp], Nat.ne_of_lt (allLt_mem lk p hp)⟩
  · simp only [List.mem_cons] at hp ⊢
    rcases hp with hp | hp | hp | hp <;> simp [hp]
  · rcases List.mem_cons.mp hp with rfl | hp
    · exact o0
    · exact off p (List.mem_cons_of_mem _ hp)
theorem sum_led {ns : List Int} (hh : A.handled = none) (F : Fr h₀ L s.heap m) (N : News h₀ L s.heap news) (hm : (l, W.listOf its n) ∈ news) (hi : IntsAre its.toList ns)
    (h : ∀ h' tk t', Fr h₀ L h' m → News h₀ L h' news → Q (.int ns.sum t') { s with heap := h', toks := tk }) : wpAny (model prog w) A (call (.builtin "sum") [.ref l]) Q E s := by
  have hl := News.isList N hm
  rw [← Array.toArray_toList (xs := its)] at hl
  obtain ⟨xs, hx⟩ := hi.allInts.items
  have hn : numsOf its.toList.toArray.toList = ns := by rw [show its.toList.toArray.toList = its.toList from rfl, hi.numsOf]
  rw [hx] at hl hn
  rw [nums_intItems] at hn
  refine sum_intListG hh hl fun h' tk t' hk => ?_
  have := h h' tk t' (F.keeps hk) (N.grown hk)
  rw [preSum_eq, List.take_of_length_le (by simp), hn]
  exact this
end
end
section
open PySem PySem.W PyProof.Rows PySem.Calls PySem.Spec
theorem words_D1 : True := by
  w_top off
  k_with_none
  k_with "mine room" => ((simp only [depth_under_make, depth_under_kw, depth_in1, depth_deeper, depth_caller, recursionLimit] at *; (try dsimp only [ktrTop] at *); omega))
  k_with "mine enter" => ((refine wpAny_call ?_; first
  | (refine' code_def ?y2k1 ?y2k2 ?y2k3 ?y2k4 ?y2k5 ?y2kA ?y2kF ?y2kK ?y2k6 ?y2k7 ?y2k8 ?y2k9 ?y2kB ?_ ?y2c2 ?y2c3 ?y2c4 ?y2c5; (case y2kA => exact rfl); (case y2kF => exact rfl); (case y2kK => first | exact rfl | assumption); (case y2k1 => k_asm); (case y2k2 => k_asm); (case y2k3 => k_asm); (case y2k4 => k_asm); (case y2k5 => k_asm); (case y2k6 => k_is); (case y2k7 => k_is); (case y2k8 => walk_at "mine room"); (case y2k9 => first | exact BindsTo.of_eq rfl | exact binds_K (by k_in) rfl (by k_is) rfl rfl rfl); (case y2c5 => decide); (case y2kB => exact locs rfl); (case y2c2 => exact rfl); (case y2c3 => exact rfl); (case y2c4 => exact rfl); k_whole; intro w9g' w9L' w9h' w9FG' w9F' w9N' w9B' w9X' w9T'; (try dsimp only); (try k_lift w9B'); (try k_fold))
  | (refine' code_defC ?y2k1 ?y2k2 ?y2k3 ?y2k4 ?y2k5 ?y2kA ?y2kF ?y2kK ?y2k6 ?y2k7 ?y2k8 ?y2k9 ?y2kB ?y2kD ?_ ?y2c2 ?y2c3 ?y2c4; (case y2kA => exact rfl); (case y2kF => exact rfl); (case y2kK => first | exact rfl | assumption); (case y2k1 => k_asm); (case y2k2 => k_asm); (case y2k3 => k_asm); (case y2k4 => k_asm); (case y2k5 => k_asm); (case y2k6 => k_is); (case y2k7 => k_is); (case y2k8 => walk_at "mine room"); (case y2k9 => first | exact BindsTo.of_eq rfl | exact binds_K (by k_in) rfl (by k_is) rfl rfl rfl); (case y2kB => exact rfl); (case y2kD => decide +kernel); (case y2c2 => exact rfl); (case y2c3 => exact rfl); (case y2c4 => exact rfl); k_whole; intro w9g' w9L' w9h' w9tk' w9cells' w9FG' w9F' w9N' w9Y' w9B' w9X' w9T' w9l1; (try k_lt w9l1); k_cells w9Y'; (try simp only [List.cons_append, List.nil_append] at w9N'); (try dsimp only); (try k_lift w9B'); (try k_fold))))
  k_with "call ref" => ((k_here; k_dflt (walk_at "mine enter")))
  k_with "execs cons" => ((k_here; (try k_gentoks); (try dsimp only); (with_reducible refine wpAny_execs_cons ?_); (try dsimp only); k_fold))
  k_with "mine bound" => (first | omega | exact Int.fmod_nonneg_of_pos _ (by decide) | exact Int.fmod_lt_of_pos _ (by decide))
  k_with "mine short" => (first | exact Nat.le_of_ble_eq_true rfl | ((try simp only [PySem.Str.length_append]); (try kopn_lits); omega))
  k_with "mine open" => ((fail_if_success (with_reducible show wpAny _ _ (subscriptTail _ (Expr.Constant _ _ _) _ _) _ _ _)))
  k_with "subscriptTail" => ((k_here; (with_reducible show wpAny _ _ (subscriptTail _ _ (Value.ref _) (Value.int _ _)) _ _ _); walk_at "mine open"; k_dflt (first
  | (refine item_pickS4 3 (by k_asm) (List.Mem.head _) (by walk_at "mine bound") (by walk_at "mine bound") (by walk_at "mine short") (by walk_at "mine short") (by walk_at "mine short") (by walk_at "mine short") ?_; intro _ _)
  | (refine item_pickS4 60 (by k_asm) (List.Mem.head _) (by walk_at "mine bound") (by walk_at "mine bound") (by walk_at "mine short") (by walk_at "mine short") (by walk_at "mine short") (by walk_at "mine short") ?_; intro _ _)
  | (refine item_pickS2 (by k_asm) (List.Mem.head _) (by walk_at "mine bound") (by walk_at "mine bound") (by walk_at "mine short") (by walk_at "mine short") ?_; intro _ _)
  | (refine item_pickI2 (by k_asm) (List.Mem.head _) (by walk_at "mine bound") (by walk_at "mine bound") ?_; intro _))))
  k_with "mine mem" => (first | exact List.Mem.head _ | (refine List.Mem.tail _ ?_; walk_at "mine mem"))
  k_with "pyIter ref" => (((with_reducible show wpAny _ _ (pyIter (Value.ref _)) (fun it s₂ => LoopAtV _ _ _ _ _ _ _ _ _ it s₂) _ _); with_unfolding_all refine iter_listUnr (by rfl) (by k_asm) (by k_asm) (by walk_at "mine mem") (by rfl) (by rfl) ?_; intro w9i' w9l1))
  k_with "UnrEnd" => ((refine unrEnd_of (by k_asm) (by k_asm) (by assumption) ⟨by walk_at "mine mem", ?_⟩))
  k_with "pyIter ref" => (((with_reducible show wpAny _ _ (pyIter (Value.ref _)) (fun it s₂ => TurnsAt _ _ _ _ _ _ _ _ _ it s₂) _ _); with_unfolding_all refine iter_listTurns (by rfl) (by k_asm) (by k_asm) (by walk_at "mine mem") (by rfl) (by rfl) ?_; intro w9i' w9l1))
  k_with "UnrEndW" => ((refine unrEndW_of (by k_asm) (by k_asm) (by assumption) ⟨⟨by walk_at "mine mem", trivial⟩, ?_⟩))
  k_with "mine sub" => ((intro w9p w9hp; first | exact w9hp | (simp only [List.mem_cons, List.mem_append] at w9hp ⊢; first | (simp only [w9hp, true_or, or_true]; done) | (rcases w9hp with w9hp | w9hp <;> simp only [w9hp, true_or, or_true] <;> done))))
  k_with "call ref" => ((k_here; (with_reducible show wpAny _ _ (call (Value.ref 44) [Value.bytes #[] _]) _ _ _); k_dflt (refine' Claim.use (pd_0 #[] #[] _ (by decide) (by decide +kernel)) ?y44B ?y44F ?y44X ?y44N ?y44T ?y44K ?y44d ?y44u ?_; (case y44B => k_asm); (case y44F => k_asm); (case y44X => k_asm); (case y44N => k_asm); (case y44T => k_asm); (case y44K => first | exact rfl | assumption); (case y44d => walk_at "mine room"); (case y44u => walk_at "mine room"); k_whole; intro w9v' w9tl' w9h' w9tk' w9F' w9N' w9r'; obtain ⟨w9tl0, w9t9, w9v0⟩ := w9r'; subst w9tl0; subst w9v0; (try simp only [List.nil_append, List.cons_append] at w9N'); (try dsimp only); (try k_sweep))))
  k_with "call ref" => ((k_here; (with_reducible show wpAny _ _ (call (Value.ref 44) [Value.bytes _ _, Value.int _ _]) _ _ _); k_dflt (refine' Claim.use (pd_c _ _ _ _ _ ?y45hb ?y45hr) ?y45B ?y45F ?y45X ?y45N ?y45T ?y45K ?y45d ?y45u ?_; (case y45hb => with_reducible assumption); (case y45hr => with_reducible assumption); (case y45B => k_asm); (case y45F => k_asm); (case y45X => k_asm); (case y45N => k_asm); (case y45T => k_asm); (case y45K => first | exact rfl | assumption); (case y45d => walk_at "mine room"); (case y45u => walk_at "mine room"); k_whole; intro w9v' w9tl' w9h' w9tk' w9F' w9N' w9r'; obtain ⟨w9tl0, w9t9, w9v0⟩ := w9r'; subst w9tl0; subst w9v0; (try simp only [List.nil_append, List.cons_append] at w9N'); (try dsimp only); (try k_sweep))))
  k_with "mine in" => (first | (with_reducible assumption) | exact List.mem_cons_self | (refine List.mem_cons_of_mem _ ?_; walk_at "mine in") | (refine List.mem_append.mpr (.inr ?_); walk_at "mine in"))
  k_with "exec For Name Name cons nil" => ((k_here; (rename Fr _ _ _ _ => w9lF'); k_dflt ((with_unfolding_all refine' For_list1 w9lF' ?y47k0 ?y47k1 ?y47k2 ?_); (case y47k0 => exact rfl); (case y47k1 => exact rfl); (case y47k2 => exact rfl); k_whole)))
  k_with "exec For Name Call cons nil" => ((k_here; (rename Fr _ _ _ _ => w9lF'); k_dflt ((with_unfolding_all refine' For_cell w9lF' ?y48k0 ?y48k1 ?y48k2 ?y48k3 ?_); (case y48k0 => exact rfl); (case y48k1 => exact rfl); (case y48k2 => exact rfl); (case y48k3 => exact rfl); k_whole)))
  k_with "binaryOp Pow int int" => ((k_here; refine pow_nat (by decide) (by omega) ?_; intro _ _))
  k_with "binaryOp FloorDiv int int" => ((k_here; (with_reducible show wpAny _ _ (binaryOp _ (Value.int _ _) (Value.int (HPow.hPow (_ : Int) (_ : Nat)) _)) _ _ _); refine fdiv_nat (by exact Int.ne_of_gt (pow_pos_of (by decide) _)) (pow_small _ (by omega)).1 ?_; intro _ _))
  k_with "subscriptTail Name Name ref int" => ((k_here; (with_reducible show wpAny _ _ (subscriptTail _ _ (Value.ref _) (Value.int (Nat.cast _) _)) _ _ _); k_dflt (refine item_at (by k_asm) (by walk_at "mine in") (by omega) (by omega) (by with_reducible assumption) ?_)))
  k_with "subscriptTail Name BinOp ref int" => ((k_here; (with_reducible show wpAny _ _ (subscriptTail _ _ (Value.ref _) (Value.int (HSub.hSub _ _) _)) _ _ _); apply StopD.out))
  k_with "exec Assign cons ListComp" => ((apply StopD.out))
  k_with "call builtin:list.append" => ((apply StopD.out))
  k_with "subscriptTail Name Constant ref int" => ((k_here; (with_reducible show wpAny _ _ (subscriptTail _ (Expr.Constant _ _ _) (Value.ref _) (Value.int _ _)) _ _ _); k_dflt (refine item_at (by k_asm) (by walk_at "mine in") (by decide) (by decide) (by with_reducible assumption) ?_)))
  k_with "call builtin:sum" => ((k_here; (with_reducible show wpAny _ _ (call (Value.builtin "sum") [Value.ref _]) _ _ _); k_dflt (refine' sum_led ?y56k0 ?y56k1 ?y56k2 ?y56k3 ?y56k4 ?_; (case y56k0 => with_unfolding_all rfl); (case y56k1 => k_asm); (case y56k2 => k_asm); (case y56k3 => walk_at "mine in"); (case y56k4 => with_reducible assumption); k_whole); intro w9h' w9tk' w9t' w9F' w9N'))
  trivial
local macro_rules | `(tactic| k_all) => `(tactic| with_reducible assumption)
noncomputable def StopD (P : Prop) : Prop := P
theorem StopD.out {P : Prop} (h : StopD P) : P := h
theorem news_fin {h₀ h : Heap} {L : Addr} {x y z u : Addr × Obj} {l : List (Addr × Obj)} (N : News h₀ L h (x :: y :: z :: u :: l)) : News h₀ L h ([x, y] ++ l) := fun p hp => N p (by
  simp only [List.mem_cons, List.mem_append, List.not_mem_nil, or_false] at hp ⊢
  rcases hp with (hp | hp) | hp <;> simp [hp])
theorem news_rot2 {h₀ h : Heap} {L : Addr} {x y : Addr × Obj} {l : List (Addr × Obj)} (N : News h₀ L h (x :: y :: l)) : News h₀ L h (y :: x :: l) := fun p hp => N p (by
  simp only [List.mem_cons] at hp ⊢
  rcases hp with hp | hp | hp <;> simp [hp])
set_option maxHeartbeats 8000000 in
theorem dep_c {w : World} {mean : ExcName → Option Value} {mg mb : Str → Option Value} {news : List (Addr × Obj)} (l1 l2 : Addr) (s0 s1 s2 s3 : Int) (sts bs : Array Value) (n1 n2 : Nat) (hl1 : (l1, W.listOf sts n1) ∈ news) (hl2 : (l2, W.listOf bs n2) ∈ news)
    (hst : IntsAre sts.toList [s0, s1, s2, s3]) (hb : ∀ k, k < 4 → ∃ b r t, bs[((k : Nat) : Int).toNat]? = some (.bytes b t) ∧ b.size ≤ 64 ∧ subR b = some r ∧ (cntB r #[40] : Int) - (cntB r #[41] : Int) = stp s0 s1 s2 s3 k) :
    Claim w mean mg mb 12 148 [.ref l1, .ref l2] news (fun v tl => ∃ a its n, v = .ref a ∧ (a, W.listOf its n) ∈ tl ∧ IntsAre its.toList ((List.range 16).map (sumsAt s0 s1 s2 s3))) := by
  delta Claim; k_fill
  intro dp un gd cn cs a ccd cl outer A₀ base h₀ L m s Q E B F X N T hk hd hu hret
  walk_at "mine enter"
  (rename ∀ p ∈ news, _ < _ => hLt)
  have c1 : ∀ p ∈ news, p.1 ≠ _ + 1 := fun p hp => Nat.ne_of_lt (Nat.lt_succ_of_lt (hLt p hp))
  have c2 : ∀ p ∈ news, p.1 ≠ _ + 1 + 1 := fun p hp => Nat.ne_of_lt (Nat.lt_succ_of_lt (Nat.lt_succ_of_lt (hLt p hp)))
  have c3 : ∀ p ∈ news, p.1 ≠ _ + 1 + 1 + 1 := fun p hp => Nat.ne_of_lt (Nat.lt_succ_of_lt (Nat.lt_succ_of_lt (Nat.lt_succ_of_lt (hLt p hp))))
  k_steps
  (rename Fr _ _ _ _ => lF'); (rename News _ _ _ _ => lN'); (rename IsRange _ _ _ _ _ _ _ _ => r9)
  (rename _ ∧ _ ∧ _ ∧ AllLt _ _ => l1')
  refine' ⟨_, 1, 16, _, _, _, 15, _, _, _, _, JD _ _ l1 s0 s1 s2 s3, rfl, rfl, r9, by decide, by decide, lF', news_rot2 lN', by with_reducible assumption, ?off, ⟨_, _, rfl, rfl, ?start⟩, ?step, ?fin⟩
  case start => exact .cons _ _ .nil
  case off =>
    intro p hp
    simp only [List.mem_cons] at hp
    rcases hp with rfl | rfl | rfl | hp
    · exact Nat.ne_of_gt (by omega)
    · exact Nat.ne_of_lt (Nat.lt_succ_self _)
    · exact Nat.ne_of_lt (Nat.lt_succ_of_lt (Nat.lt_succ_self _))
    · exact c3 p hp
  case fin =>
    intro h9 tk9 m9 news9 oc9 hJ9 F9 N9
    obtain ⟨its, n, hm1, rfl, hI⟩ := hJ9
    obtain ⟨m4, rfl⟩ := m_is1 hm1
    show wpAny _ _ _ _ _ _
    k_steps
    · (rename Fr _ _ _ _ => f9); (rename News _ _ _ _ => n9)
      exact hret _ _ _ _ f9 (news_fin n9) ⟨_, its, n, rfl, List.mem_cons_of_mem _ List.mem_cons_self, hI⟩
    · exfalso
      (rename ((_ : Int) ≠ _) => q)
      exact q sums_all
  case step =>
    intro i m₁ news₁ I oI oc₁ t' h' tk' E' hi hJ off' hIc hoc F' N'
    obtain ⟨its, n, hm1, rfl, hI⟩ := hJ
    obtain ⟨m4, rfl⟩ := m_is1 hm1
    replace hoc : oc₁.data = .cell (some (.int ((i + 1 : Nat) : Int) t')) := by rw [hoc, show (1 : Int) + (i : Int) = ((i + 1 : Nat) : Int) by omega]
    k_steps
    show wpAny _ _ _ _ _ _
    (rename Fr _ _ _ _ => lF'); (rename News _ _ _ _ => lN')
    refine LCt.Assign_ListComp_T (F₀ := lF') (by rfl) (by with_unfolding_all rfl) (by with_unfolding_all rfl) (by decide) (by rfl) (by decide) (by rfl) (by rfl) (by rfl) ?_
    k_steps
    (rename Fr _ _ _ _ => lF'); (rename News _ _ _ _ => lN'); (rename IsRange _ _ _ _ _ _ _ _ => r9)
    refine srcT_range (n := 4) (IvD _ (sumsAt s0 s1 s2 s3 (i + 1)) (i + 1)) (by rfl) lF' lN' r9 (by decide) (by decide) (by decide) IvD.start ?T ?Fi
    case T =>
      intro g k ys led v I2 oI2 C oC D m₂ h2 tk2 E2 hk hV hP hC hx F2 N2 off2 ne2
      obtain ⟨t2, rfl⟩ := hP
      simp only [Int.zero_add] at hx
      have hled := hV.1
      subst hled
      obtain ⟨b, r, tb, hbk, hbs, hbr, hbc⟩ := hb k hk
      clear r9 lN' lF'
      dsimp only
      k_steps
      · apply StopD.out
        (rename Fr _ _ _ _ => f9); (rename News _ _ _ _ => n9); (rename ((_ : Int) = _) => yes)
        replace yes := (bit_int (by omega) hk).mp yes
        obtain ⟨y1, y2, ty, y3⟩ := sums_at hI hi hk yes
        have y4 := (sums_less (s0 := s0) (s1 := s1) (s2 := s2) (s3 := s3) (i + 1) (by omega) k hk yes).2
        refine item_at n9 (by walk_at "mine in") y1 y2 y3 ?_

        k_steps
        (rename Fr _ _ _ _ => f9); (rename News _ _ _ _ => n9)
        exact ⟨_, _, _, rfl, f9, n9, off2, trivial, hV.yes yes (by omega)⟩
      · (rename Fr _ _ _ _ => f9); (rename News _ _ _ _ => n9); (rename ((_ : Int) ≠ _) => no)
        exact ⟨_, _, _, rfl, f9, n9, off2, trivial, hV.no fun q => no ((bit_int (by omega) hk).mpr q)⟩
    case Fi =>
      intro g ys led hV D h9 tk9 F9 N9 o9
      have hled := hV.1
      subst hled
      obtain ⟨tf, hf⟩ := hV.first (by omega) (by omega)
      obtain ⟨_, ns, hns, hall, _⟩ := hV
      clear r9 lN' lF'
      show wpAny _ _ _ _ _ _
      dsimp only
      k_steps
      (rename Fr _ _ _ _ => f9); (rename News _ _ _ _ => n9)
      refine ⟨_, ys.toArray, _, _, JT D l1 _, rfl, by rfl, f9, n9, fun i m led hJ => .inr ⟨_, hJ.2.2 ▸ List.mem_cons_self, rfl, _, rfl⟩, ⟨rfl, rfl, rfl⟩, ?stepT, ?finT⟩
      case stepT =>
        intro j v m5 led5 I5 oI5 h5 tk5 E5 hv hJ5 off5 F5 N5
        obtain ⟨hm1, hm2, rfl⟩ := hJ5
        obtain ⟨tv, rfl⟩ := ints_all hns hall hv
        obtain ⟨m6, rfl⟩ := m_is2 hm1 hm2
        k_steps
        · (rename ((_ : Int) ≠ _) => q); exact absurd rfl q
        · exact ⟨.inl rfl, _, _, _, _, rfl, F5, N5, off5, rfl, rfl, rfl⟩
      case finT =>
        intro h5 tk5 m5 led5 hJ5 F5 N5
        obtain ⟨hm1, hm2, rfl⟩ := hJ5
        obtain ⟨m6, rfl⟩ := m_is2 hm1 hm2
        show wpAny _ _ _ _ _ _
        k_steps
        apply StopD.out
        (rename Fr _ _ _ _ => f7); (rename News _ _ _ _ => n7)
        refine app_depth f7 n7 l1'.2 off' ?_ fun h' F' N' off8 => ?_
        · rw [← Array.length_toList, intsAre_len hI, List.length_map, List.length_range]; omega
        · refine wpAny_execs_nil ?_
          exact ⟨.inl rfl, _, _, _, _, rfl, F', N', off8, _, _, rfl, rfl, ints_push hI⟩
end
section
open PySem PySem.W PyProof.Rows PySem.Calls PySem.Spec
theorem fr_none {g h : Heap} {L : Addr} {m : Str → Option Value} (F : Fr g L h m) : g.get? L = none := by
  cases q : g.get? L with
  | none => rfl
  | some o => exact absurd (Nat.lt_of_lt_of_le (Heap.lt_size q) F.above) (Nat.lt_irrefl _)
theorem frames_mem {env : Env} {L b : Addr} {outer : List Env} (hf : env.frame = some L) (hm : b ∈ (env :: outer).filterMap (·.frame)) : b = L ∨ b ∈ outer.filterMap (·.frame) := by
  obtain ⟨e, he, hb⟩ := List.mem_filterMap.mp hm
  rcases List.mem_cons.mp he with rfl | he
  · rw [hf] at hb; exact .inl (Option.some.inj hb).symm
  · exact .inr (List.mem_filterMap.mpr ⟨e, he, hb⟩)
theorem ns_turn {h h' : Heap} {L : Addr} {m : Str → Option Value} {o : Obj} {sl : Array (Option Value)} (hn : h.Ns L m) (ho : h.get? L = some o) (ho' : h'.get? L = some { o with slots := sl }) : h'.Ns L m := by
  obtain ⟨oL, es, ep, hL, hLd, hLk, hLf⟩ := hn
  rw [ho] at hL
  cases hL
  exact ⟨_, es, ep, ho', hLd, hLk, hLf⟩
section
variable {prog : Program} {w : World} {A₀ A : Around} {s : Shared} {base h₀ : Heap} {outer : List Env} {env : Env} {L : Addr} {m : Str → Option Value} {news : List (Addr × Obj)} {K : Frag} {p : Program} {loose : List Str} {mean : ExcName → Option Value} {mg mb : Str → Option Value}
  {R : Result → Shared → Prop} {name qual : Str} {params : Arguments} {body : List Stmt} {scope : Scope} {dV kV doc pm cdv ct oc : Value} {an od : Option Addr} {osl : Array (Option Value)} {f : Addr} {args : Args} {binds : List (Str × Value)}
/-- entering a def from any def's frame, when an exception that is caught below may turn the slots of the frames -/
theorem code_SX (B : Below A₀ base outer h₀) (F : Fr h₀ L s.heap m) (X₀ : K.In h₀) (N : News h₀ L s.heap news) (T : Top p loose mean mg mb h₀) (XB : K.In base) (TB : Top p loose mean mg mb base) (D : KtsDicts (outer.filterMap (·.frame)) h₀)
    (hA : A.frames = some (env :: outer)) (hf : env.frame = some L) (hke : env.scope.kind = .function)
    (ho : K.lookup f = some ⟨oc, od, .func (fnOf name qual params body scope dV kV doc pm an cdv ct), osl⟩) (hcd : codeIn K cdv qual = true) (hroom : A.depth < recursionLimit)
    (hbind : BindsTo s (fnOf name qual params body scope dV kV doc pm an cdv ct) args binds) (hloc : ∀ y ∈ binds, scope.names.lookup y.1 = some .local)
    (h : ∀ g L' h₁, Fr h₀ L g m → Fr g L' h₁ (fun y => binds.reverse.lookup y) → News g L' h₁ news → Below A base (env :: outer) g → K.In g → Top p loose mean mg mb g → KtsDicts ((env :: outer).filterMap (·.frame)) g →
      wpAny (model prog w) (A.deeper (envOf qual scope L' f cdv)) (execs body (envOf qual scope L' f cdv))
        (fun fl s' => LeaveS ((env :: outer).filterMap (·.frame)) A₀ base outer K p loose mean mg mb h₀ h₀ L m g R (match fl with | .ret v => v | _ => .none) s')
        (fun e s' => wpAny (model prog w) (A.deeper (envOf qual scope L' f cdv)) (leaving (envOf qual scope L' f cdv) e) (fun _ s'' => R (.error e) s'') (fun e' s'' => R (.error e') s'') s')
        { s with heap := h₁, toks := s.toks + binds.length })
    (hco : scope.isCoroutine = false) (hgen : scope.isGenerator = false) (hk : scope.kind = .function)
    (hcell : ∀ x ∈ scope.names, x.2 ≠ .cell) : codeAny (model prog w) A (.call (.ref f) args) R s := by
  have X := X₀.keeps F.keep
  obtain ⟨FG, B₂, st, _⟩ := groundX (R := R) B F N hA hf hke
  generalize hg : hideAll s.heap (news.map (·.1)) = g at FG B₂ st
  have up : ∀ b o, g.get? b = some o → s.heap.get? b = some o := fun b o e => of_hideAll _ (hg ▸ e)
  obtain ⟨oL, es, ep, hLg, hLd, hLk, hLf⟩ := FG.ns
  refine codeAny_call_def (fd := fnOf name qual params body scope dV kV doc pm an cdv ct) (body := body) (binds := binds) hroom (X _ _ ho) rfl (T.nolimit.keeps F.keep) (codeRec_of X hcd) rfl hbind hcell hloc (fun h₁ hns hk₁ => ?_) hco hgen hk
  have D₂ : KtsDicts ((env :: outer).filterMap (·.frame)) g := fun b hb => by
    rcases frames_mem hf hb with rfl | hb
    · exact ⟨oL, es, ep, hLg, hLd⟩
    · obtain ⟨o, es', n', ho', hd'⟩ := D b hb
      exact ⟨o, es', n', st b o ho', hd'⟩
  have N₁ : News g s.heap.objs.size h₁ news := fun q hq => ⟨hk₁ _ _ (N q hq).1, Nat.ne_of_lt (Heap.lt_size (N q hq).1), by rw [← hg]; exact hideAll_none _ (List.mem_map_of_mem hq)⟩
  refine wpAny_mono (h g s.heap.objs.size h₁ FG ⟨hns, fun b o e => hk₁ b o (up b o e), by rw [← hg]; exact Nat.le_of_eq (hideAll_size _ _)⟩ N₁ B₂ (X₀.keeps st) (T.keeps st) D₂) (fun fl s' hl => ?_) fun _ _ y => y
  have nL₀ : h₀.get? L = none := fr_none F
  have fresh : ∀ {g' : Heap} {b : Addr}, KtsTurn ((env :: outer).filterMap (·.frame)) g g' → g'.get? b = none → h₀.get? b = none := fun {g' b} T' e => by
    cases q : h₀.get? b with
    | none => rfl
    | some o =>
      obtain ⟨sl, hs⟩ := T'.up (st b o q)
      rw [e] at hs; cases hs
  rcases hl with ⟨L', m', news', F', N', k⟩ | ⟨g', L', m', news', T', F', N', k⟩
  · refine k ⟨⟨oL, es, ep, F'.keep _ _ hLg, hLd, hLk, hLf⟩, fun b o e => F'.keep b o (st b o e), F.above⟩ fun q hq => ⟨(N' q hq).1, fun z => ?_, fresh KtsTurn.refl (N' q hq).2.2⟩
    have := (N' q hq).2.2
    rw [z, hLg] at this; cases this
  · obtain ⟨sl, hs⟩ := T'.up hLg
    obtain ⟨T₁, S₁⟩ := kts_turn_at (h := s'.heap) (fs := outer.filterMap (·.frame)) (g := h₀)
      (fun b hb => by
        obtain ⟨_, o, ho', _⟩ := B.frames.mem hb
        exact ⟨o, ho'⟩)
      (fun b o e nm => F'.keep b o (T'.other b o (st b o e) (fun q => by
        rcases frames_mem hf q with z | z
        · rw [z, nL₀] at e; cases e
        · exact nm z)))
      (fun b o e hm => by
        obtain ⟨sl', hs'⟩ := T'.up (st b o e)
        exact ⟨sl', F'.keep _ _ hs'⟩)
    have B₃ : Below A₀ base outer (ktsHeap s'.heap (outer.filterMap (·.frame)) h₀) := ⟨B.stack, fun b o e => T₁.other b o (B.stays b o e) (fun hm => by
      rw [(B.frames.mem hm).1] at e
      cases e), B.frames.of_keeps fun b o e _ => by
      obtain ⟨sl', hs'⟩ := T₁.up e
      exact ⟨_, hs', rfl⟩⟩
    refine k _ T₁ ⟨ns_turn FG.ns hLg (F'.keep _ _ hs), S₁, by rw [T₁.size]; exact F.above⟩ (fun q hq => ⟨(N' q hq).1, fun z => ?_, T₁.none_ _ (fresh T' (N' q hq).2.2)⟩) B₃ (XB.keeps B₃.stays) (TB.keeps B₃.stays) (D.turn T₁)
    have := (N' q hq).2.2
    rw [z, hs] at this; cases this
end
/-- a contract of a def that catches: the base may turn -/
noncomputable abbrev ClaimS (w : World) (mean : ExcName → Option Value) (mg mb : Str → Option Value) (d : Nat) (f : Addr) (vs : List Value) (news : List (Addr × Obj)) (R : Value → List (Addr × Obj) → Prop) : Prop :=
  ∀ (dp un : Nat) (gd : Option (List Code)) (cn : Str) (cs : Scope) (a : Addr) (ccd : Value) (cl : List (Str × Addr)) (outer : List Env) (A₀ : Around) (base h₀ : Heap) (L : Addr) (m : Str → Option Value) (s : Shared) (Q E : Value → Shared → Prop),
    Below A₀ base outer h₀ → Fr h₀ L s.heap m → (hd.heap_39 w.params).In h₀ → News h₀ L s.heap news → Top hd.view_39 lo mean mg mb h₀ → (hd.heap_39 w.params).In base → Top hd.view_39 lo mean mg mb base → KtsDicts (outer.filterMap (·.frame)) h₀ → cs.kind = .function →
    dp + d ≤ 330 → un + 8 * d ≤ 500 →
    (∀ (v : Value) (tl : List (Addr × Obj)) (h₀' h' : Heap) (tk' : Nat), KtsTurn (outer.filterMap (·.frame)) h₀ h₀' → Fr h₀' L h' m → News h₀' L h' (tl ++ news) → Below A₀ base outer h₀' → (hd.heap_39 w.params).In h₀' → Top hd.view_39 lo mean mg mb h₀' → KtsDicts (outer.filterMap (·.frame)) h₀' → R v tl → Q v { s with heap := h', toks := tk' }) →
      wpAny (model PySem.Challenge.rw_xj0001_01.row.prog w) (ktrTop dp un gd cn cs L a ccd cl outer) (call (.ref f) vs) Q E s
/-- called from the outermost frame, it is a plain contract -/
theorem ClaimS.use0 {w : World} {mean : ExcName → Option Value} {mg mb : Str → Option Value} {d : Nat} {f : Addr} {vs : List Value} {news : List (Addr × Obj)} {R : Value → List (Addr × Obj) → Prop}
    {dp un : Nat} {gd : Option (List Code)} {cn : Str} {cs : Scope} {a : Addr} {ccd : Value} {cl : List (Str × Addr)} {A₀ : Around} {h₀ : Heap} {L : Addr} {m : Str → Option Value} {s : Shared} {Q E : Value → Shared → Prop}
    (C : ClaimS w mean mg mb d f vs news R) (B : Below A₀ h₀ [] h₀) (F : Fr h₀ L s.heap m) (X : (hd.heap_39 w.params).In h₀) (N : News h₀ L s.heap news) (T : Top hd.view_39 lo mean mg mb h₀) (hk : cs.kind = .function)
    (hd : dp + d ≤ 330) (hu : un + 8 * d ≤ 500)
    (k : ∀ (v : Value) (tl : List (Addr × Obj)) (h' : Heap) (tk' : Nat), Fr h₀ L h' m → News h₀ L h' (tl ++ news) → R v tl → Q v { s with heap := h', toks := tk' }) :
      wpAny (model PySem.Challenge.rw_xj0001_01.row.prog w) (ktrTop dp un gd cn cs L a ccd cl []) (call (.ref f) vs) Q E s :=
  C dp un gd cn cs a ccd cl [] A₀ h₀ h₀ L m s Q E B F X N T X T ktsDicts_nil hk hd hu fun v tl h₀' h' tk' T' F' N' _ _ _ _ r => by
    have e : ∀ b o, h₀.get? b = some o → h₀'.get? b = some o := fun b o q => T'.other b o q (fun z => nomatch z)
    refine k v tl h' tk' ⟨F'.ns, fun b o q => F'.keep b o (e b o q), F.above⟩ (fun q hq => ⟨(N' q hq).1, (N' q hq).2.1, ?_⟩) r
    cases z : h₀.get? q.1 with
    | none => rfl
    | some o => have := (N' q hq).2.2; rw [e _ _ z] at this; cases this
end
section
open PySem PySem.W PyProof.Rows PySem.Calls PySem.Spec
open PySem.Builtin PySem.Builtin.Str PySem.Builtin.BaseException PySem.Builtin.Exceptions
section
variable {prog : Program} {w : World} {A : Around} {E : Value → Shared → Prop} {s : Shared} {K : Frag} {x C t0 : Addr} {ox ot : Obj} {ws : Array Value} {m : Str} {tk : Tok} {nt : Nat}
theorem exc_type {M : Model} (hx : s.heap.get? x = some ox) (hc : ox.cls = .ref C) : Looks M s.heap (typeOf (.ref x)) (.ref C) := hc ▸ (Looks.ld hx).andThen .now
theorem bexcArgs_own {M : Model} {Q : Value × List Value → Shared → Prop} (hx : s.heap.get? x = some ox) (hd : ox.data = .fields ws) (h0 : ws[0]? = some (.ref t0)) (ht : s.heap.get? t0 = some ot) (htd : ot.data = .seq [Value.str m tk].toArray nt)
    (hq : Q (.ref t0, [.str m tk]) s) : wpAny M A (bexcArgs (.ref x)) Q E s := by
  unfold bexcArgs
  exact wpAny_bind (wpAny_field hx hd h0 (wpAny_bind (wpAny_seqItems ht htd (wpAny_pure hq))))
theorem bexcStr_own {Q : Fin → Shared → Prop} (hx : s.heap.get? x = some ox) (hd : ox.data = .fields ws) (h0 : ws[0]? = some (.ref t0)) (ht : s.heap.get? t0 = some ot) (htd : ot.data = .seq [Value.str m tk].toArray nt)
    (hq : Q (.done (.ret (.str m tk))) s) : wpAny (model prog w) A (Builtin.«BaseException.__str__» ⟨[.ref x], []⟩) Q E s := by
  unfold Builtin.«BaseException.__str__»
  repeat (first | with_reducible refine bexcArgs_own hx hd h0 ht htd ?_ | wp_step)
  exact hq
theorem call_bexc_own {Q : Value → Shared → Prop} (X : K.In s.heap) (hx : s.heap.get? x = some ox) (hc : ox.cls = .ref C) (hi : subIn K (.ref C) (.type "BaseException") = some true) (hd : ox.data = .fields ws) (h0 : ws[0]? = some (.ref t0)) (ht : s.heap.get? t0 = some ot) (htd : ot.data = .seq [Value.str m tk].toArray nt)
    (hq : Q (.str m tk) s) : wpAny (model prog w) A (call (.builtin "BaseException.__str__") [.ref x]) Q E s := by
  refine wpAny_call (codeAny_call_builtin (by decide +kernel) PySem.F.entry_bexc_str ?_)
  refine @check_slot (model prog w) _ _ s "BaseException.__str__" "BaseException" "__str__" (.ref x) [] [] _ (by decide +kernel) (by decide +kernel) ((exc_type hx hc).andThen (looks_subIn X hi)) (PySem.F.args_bexc_str _) ?_
  exact bexcStr_own hx hd h0 ht htd hq
theorem special_bexc {M : Model} {Q : Option Value → Shared → Prop} (X : K.In s.heap) (hx : s.heap.get? x = some ox) (hc : ox.cls = .ref C) (hs : findIn K (.ref C) "__str__" = some (some (.builtin "BaseException.__str__")))
    (h : wpAny M A (call (.builtin "BaseException.__str__") [.ref x]) (fun v => Q (some v)) E s) : wpAny M A (callSpecial? (.ref x) "__str__") Q E s := by
  refine wpAny_bind (wpAny_bind ((exc_type hx hc).here ((looks_findIn X hs).here (wpAny_holding (wpAny_bind ?_)))))
  rw [PySem.F.excStr_Exception.str.bind]
  exact wpAny_pure (wpAny_bind (wpAny_mono h (fun _ _ z => wpAny_pure z) fun _ _ z => z))
theorem strOf_own {Q : Value → Shared → Prop} (hu : A.units < cLine) (X : K.In s.heap) (hx : s.heap.get? x = some ox) (hc : ox.cls = .ref C) (hs : findIn K (.ref C) "__str__" = some (some (.builtin "BaseException.__str__"))) (hi : subIn K (.ref C) (.type "BaseException") = some true) (hd : ox.data = .fields ws) (h0 : ws[0]? = some (.ref t0)) (ht : s.heap.get? t0 = some ot) (htd : ot.data = .seq [Value.str m tk].toArray nt)
    (hq : Q (.str m tk) s) : wpAny (model prog w) A (PySem.Builtin.Str.strOf (.ref x)) Q E s := by
  unfold PySem.Builtin.Str.strOf
  rw [show isExactStr (.ref x) = false from rfl]
  refine wpAny_bind (m := cRoomFor _ _) (wpAny_cRoomFor hu ?_)
  refine wpAny_bind (m := callSpecial? (.ref x) (Str.ofString "__str__")) (special_bexc X hx hc hs (call_bexc_own X hx hc hi hd h0 ht htd ?_))
  exact wpAny_pure hq
theorem str_own {Q : Value → Shared → Prop} (hu : A.in1.in1.units < cLine) (X : K.In s.heap) (hx : s.heap.get? x = some ox) (hc : ox.cls = .ref C) (hs : findIn K (.ref C) "__str__" = some (some (.builtin "BaseException.__str__"))) (hi : subIn K (.ref C) (.type "BaseException") = some true) (hd : ox.data = .fields ws) (h0 : ws[0]? = some (.ref t0)) (ht : s.heap.get? t0 = some ot) (htd : ot.data = .seq [Value.str m tk].toArray nt)
    (hq : Q (.str m tk) s) : wpAny (model prog w) A (call (.type "str") [.ref x]) Q E s := by
  refine callType_codes (T := "str") (Bi := Builtin.«object.__init__») (Q₁ := fun r s₁ => ∃ y u, r = .str y u ∧ Q r s₁) PySem.F.called_str (PySem.F.typeCall_str_1 _) PySem.F.entry_object_init ?_ ?_
  · refine codeAny_of_tree ?_
    show wpAny _ A.in1.in1 (do checkBuiltinCall "str.__new__" ⟨[.type "str", .ref x], []⟩; again (.builtin "str.__new__" ⟨[.type "str", .ref x], []⟩)) _ _ s
    refine wpAny_bind (wpAny_of_eq (PySem.F.newCall_str_1 _) (wpAny_pure ⟨plainId_quiet (by decide +kernel) _, codeAny_builtin PySem.F.entry_str_new ?_⟩))
    rw [Around.under_plainId (by decide +kernel) _]
    rw [str_new_tree]
    refine wpAny_bind (wpAny_pure ?_)
    refine wpAny_bind (wpAny_of_eq isSubtype_str_str ?_)
    refine wpAny_bind (wpAny_mono (strOf_own hu X hx hc hs hi hd h0 ht htd (Q := fun r s₁ => ∃ y u, r = .str y u ∧ Q r s₁) ⟨_, _, rfl, hq⟩) (fun r s₁ hr => wpAny_pure hr) fun _ _ y => y)
  · rintro obj s₁ ⟨y, u, rfl, hq⟩
    exact ⟨typeIs_str _ _ _, PySem.F.args_object_init_2 _ _, object_init_meets PySem.F.called_str.init.lookup PySem.F.called_str.made (by decide) prog w A.in1 _ s₁ ⟨typeIs_str _ _ _, rfl, hq⟩⟩
/-- a caught exception of the text's own, with a text -/
theorem str_got {h₀ : Heap} {L e t : Addr} {mp : Str → Option Value} {news : List (Addr × Obj)} {Q : Value → Shared → Prop} (hu : A.in1.in1.units < cLine) (F : Fr h₀ L s.heap mp) (X : K.In h₀) (N : News h₀ L s.heap news) (G : Got news e t (.ref C) [.str m tk])
    (hs : findIn K (.ref C) "__str__" = some (some (.builtin "BaseException.__str__"))) (hi : subIn K (.ref C) (.type "BaseException") = some true) (hq : Q (.str m tk) s) : wpAny (model prog w) A (call (.type "str") [.ref e]) Q E s := by
  obtain ⟨oe, ot, ws, nt, h1, h2, h3, h4, h5, h6, h7⟩ := G
  exact str_own hu (X.keeps F.keep) (N _ h1).1 h3 hs hi h4 h5 (N _ h2).1 h7 hq
end
end
section
open PySem PySem.W PyProof.Rows PySem.Calls PySem.Spec
noncomputable abbrev lf (x : Str) : Int := Txt.find x (Str.ofString "(")
noncomputable abbrev rt (x : Str) : Int := Txt.find3 x (Str.ofString ")") (Txt.find x (Str.ofString "(") + 1)
noncomputable abbrev parts229 (x : Str) : List Str := Txt.split (Txt.slice x (some (Txt.find x (Str.ofString "(") + 1)) (some (Txt.find3 x (Str.ofString ")") (Txt.find x (Str.ofString "(") + 1)))) (Txt.item x (Txt.find x (Str.ofString "(") + 1))
noncomputable def fin229 (ps : List Str) : Option (Option (Option Int)) :=
  match ps with
  | [_, _, _, p, _] => if p.length ≤ 64 then (match PySem.intText? p with | some n => some (some (some n)) | none => none) else none
  | _ => if ps.length ≤ 60 then some (some none) else none
noncomputable def rest229 (x : Str) : Option (Option (Option Int)) :=
  if (Txt.item x (lf x + 1) != Txt.item x (rt x - 1)) = true then some (some none) else fin229 (parts229 x)
/-- what parse229 makes of a text: `none` a code's error, `some none` a form's error, else the port; nothing where this is not told -/
noncomputable def rep229 (x : Str) : Option (Option (Option Int)) :=
  if (Txt.slice x none (some 3) != Str.ofString "229") = true then some none
  else if lf x < 0 then some (some none)
  else if rt x < 0 then some (some none)
  else if lf x + 1 < x.length ∧ 1 ≤ rt x ∧ rt x - 1 < x.length ∧ x.length ≤ 64 then rest229 x
  else none
theorem rep_code {x : Str} {o : Option (Option Int)} (h : rep229 x = some o) (h1 : (Txt.slice x none (some 3) != Str.ofString "229") = true) : o = none := by
  unfold rep229 at h; rw [if_pos h1] at h; exact (Option.some.inj h).symm
theorem rep_left {x : Str} {o : Option (Option Int)} (h : rep229 x = some o) (h1 : (Txt.slice x none (some 3) != Str.ofString "229") = false) (h2 : lf x < 0) : o = some none := by
  unfold rep229 at h; rw [if_neg (by rw [h1]; decide), if_pos h2] at h; exact (Option.some.inj h).symm
theorem rep_right {x : Str} {o : Option (Option Int)} (h : rep229 x = some o) (h1 : (Txt.slice x none (some 3) != Str.ofString "229") = false) (h2 : ¬ lf x < 0) (h3 : rt x < 0) : o = some none := by
  unfold rep229 at h; rw [if_neg (by rw [h1]; decide), if_neg h2, if_pos h3] at h; exact (Option.some.inj h).symm
theorem rep_guard {x : Str} {o : Option (Option Int)} (h : rep229 x = some o) (h1 : (Txt.slice x none (some 3) != Str.ofString "229") = false) (h2 : ¬ lf x < 0) (h3 : ¬ rt x < 0) : lf x + 1 < x.length ∧ 1 ≤ rt x ∧ rt x - 1 < x.length ∧ x.length ≤ 64 ∧ rest229 x = some o := by
  unfold rep229 at h; rw [if_neg (by rw [h1]; decide), if_neg h2, if_neg h3] at h
  split at h
  · rename_i g; exact ⟨g.1, g.2.1, g.2.2.1, g.2.2.2, h⟩
  · cases h
theorem rest_item {x : Str} {o : Option (Option Int)} (h : rest229 x = some o) (h1 : (Txt.item x (lf x + 1) != Txt.item x (rt x - 1)) = true) : o = some none := by
  unfold rest229 at h; rw [if_pos h1] at h; exact (Option.some.inj h).symm
theorem rest_parts {x : Str} {o : Option (Option Int)} (h : rest229 x = some o) (h1 : (Txt.item x (lf x + 1) != Txt.item x (rt x - 1)) = false) : fin229 (parts229 x) = some o := by
  unfold rest229 at h; rw [if_neg (by rw [h1]; decide)] at h; exact h
theorem fin_small {ps : List Str} {o : Option (Option Int)} (h : fin229 ps = some o) : ps.length ≤ 60 := by
  unfold fin229 at h
  split at h
  · exact (by decide : 5 ≤ 60)
  · split at h
    · assumption
    · cases h
theorem fin_form {ps : List Str} {o : Option (Option Int)} (h : fin229 ps = some o) (h5 : ps.length ≠ 5) : o = some none := by
  unfold fin229 at h
  split at h
  · exact absurd rfl h5
  · split at h
    · exact (Option.some.inj h).symm
    · cases h
theorem fin_ok {ps : List Str} {o : Option (Option Int)} (h : fin229 ps = some o) (h5 : ps.length = 5) : ∃ n p, ps[3]? = some p ∧ p.length ≤ 64 ∧ PySem.intText? p = some n ∧ o = some (some n) := by
  match ps, h5, h with
  | [_, _, _, p, _], _, h =>
    simp only [fin229] at h
    split at h
    · rename_i hp
      split at h
      · rename_i n hn
        exact ⟨n, p, rfl, hp, hn, (Option.some.inj h).symm⟩
      · cases h
    · cases h
end
section
open PySem PySem.W PyProof.Rows PySem.Calls PySem.Spec
theorem words_P1 : True := by
  w_top off
  k_with_none
  k_with "mine room" => ((simp only [depth_under_make, depth_under_kw, depth_in1, depth_deeper, depth_caller, recursionLimit] at *; (try dsimp only [ktrTop] at *); omega))
  k_with "mine enter" => ((refine wpAny_call ?_; first
  | (refine' code_def ?y2k1 ?y2k2 ?y2k3 ?y2k4 ?y2k5 ?y2kA ?y2kF ?y2kK ?y2k6 ?y2k7 ?y2k8 ?y2k9 ?y2kB ?_ ?y2c2 ?y2c3 ?y2c4 ?y2c5; (case y2kA => exact rfl); (case y2kF => exact rfl); (case y2kK => first | exact rfl | assumption); (case y2k1 => k_asm); (case y2k2 => k_asm); (case y2k3 => k_asm); (case y2k4 => k_asm); (case y2k5 => k_asm); (case y2k6 => k_is); (case y2k7 => k_is); (case y2k8 => walk_at "mine room"); (case y2k9 => first | exact BindsTo.of_eq rfl | exact binds_K (by k_in) rfl (by k_is) rfl rfl rfl); (case y2c5 => decide); (case y2kB => exact locs rfl); (case y2c2 => exact rfl); (case y2c3 => exact rfl); (case y2c4 => exact rfl); k_whole; intro w9g' w9L' w9h' w9FG' w9F' w9N' w9B' w9X' w9T'; (try dsimp only); (try k_lift w9B'); (try k_fold))
  | (refine' code_defC ?y2k1 ?y2k2 ?y2k3 ?y2k4 ?y2k5 ?y2kA ?y2kF ?y2kK ?y2k6 ?y2k7 ?y2k8 ?y2k9 ?y2kB ?y2kD ?_ ?y2c2 ?y2c3 ?y2c4; (case y2kA => exact rfl); (case y2kF => exact rfl); (case y2kK => first | exact rfl | assumption); (case y2k1 => k_asm); (case y2k2 => k_asm); (case y2k3 => k_asm); (case y2k4 => k_asm); (case y2k5 => k_asm); (case y2k6 => k_is); (case y2k7 => k_is); (case y2k8 => walk_at "mine room"); (case y2k9 => first | exact BindsTo.of_eq rfl | exact binds_K (by k_in) rfl (by k_is) rfl rfl rfl); (case y2kB => exact rfl); (case y2kD => decide +kernel); (case y2c2 => exact rfl); (case y2c3 => exact rfl); (case y2c4 => exact rfl); k_whole; intro w9g' w9L' w9h' w9tk' w9cells' w9FG' w9F' w9N' w9Y' w9B' w9X' w9T' w9l1; (try k_lt w9l1); k_cells w9Y'; (try simp only [List.cons_append, List.nil_append] at w9N'); (try dsimp only); (try k_lift w9B'); (try k_fold))))
  k_with "call ref" => ((k_here; k_dflt (walk_at "mine enter")))
  k_with "execs cons" => ((k_here; (try k_gentoks); (try dsimp only); (with_reducible refine wpAny_execs_cons ?_); (try dsimp only); k_fold))
  k_with "mine bound" => (first | omega | exact Int.fmod_nonneg_of_pos _ (by decide) | exact Int.fmod_lt_of_pos _ (by decide))
  k_with "mine short" => (first | exact Nat.le_of_ble_eq_true rfl | ((try simp only [PySem.Str.length_append]); (try kopn_lits); omega))
  k_with "mine open" => ((fail_if_success (with_reducible show wpAny _ _ (subscriptTail _ (Expr.Constant _ _ _) _ _) _ _ _)))
  k_with "subscriptTail" => ((k_here; (with_reducible show wpAny _ _ (subscriptTail _ _ (Value.ref _) (Value.int _ _)) _ _ _); walk_at "mine open"; k_dflt (first
  | (refine item_pickS4 3 (by k_asm) (List.Mem.head _) (by walk_at "mine bound") (by walk_at "mine bound") (by walk_at "mine short") (by walk_at "mine short") (by walk_at "mine short") (by walk_at "mine short") ?_; intro _ _)
  | (refine item_pickS4 60 (by k_asm) (List.Mem.head _) (by walk_at "mine bound") (by walk_at "mine bound") (by walk_at "mine short") (by walk_at "mine short") (by walk_at "mine short") (by walk_at "mine short") ?_; intro _ _)
  | (refine item_pickS2 (by k_asm) (List.Mem.head _) (by walk_at "mine bound") (by walk_at "mine bound") (by walk_at "mine short") (by walk_at "mine short") ?_; intro _ _)
  | (refine item_pickI2 (by k_asm) (List.Mem.head _) (by walk_at "mine bound") (by walk_at "mine bound") ?_; intro _))))
  k_with "mine mem" => (first | exact List.Mem.head _ | (refine List.Mem.tail _ ?_; walk_at "mine mem"))
  k_with "pyIter ref" => (((with_reducible show wpAny _ _ (pyIter (Value.ref _)) (fun it s₂ => LoopAtV _ _ _ _ _ _ _ _ _ it s₂) _ _); with_unfolding_all refine iter_listUnr (by rfl) (by k_asm) (by k_asm) (by walk_at "mine mem") (by rfl) (by rfl) ?_; intro w9i' w9l1))
  k_with "UnrEnd" => ((refine unrEnd_of (by k_asm) (by k_asm) (by assumption) ⟨by walk_at "mine mem", ?_⟩))
  k_with "pyIter ref" => (((with_reducible show wpAny _ _ (pyIter (Value.ref _)) (fun it s₂ => TurnsAt _ _ _ _ _ _ _ _ _ it s₂) _ _); with_unfolding_all refine iter_listTurns (by rfl) (by k_asm) (by k_asm) (by walk_at "mine mem") (by rfl) (by rfl) ?_; intro w9i' w9l1))
  k_with "UnrEndW" => ((refine unrEndW_of (by k_asm) (by k_asm) (by assumption) ⟨⟨by walk_at "mine mem", trivial⟩, ?_⟩))
  k_with "mine sub" => ((intro w9p w9hp; first | exact w9hp | (simp only [List.mem_cons, List.mem_append] at w9hp ⊢; first | (simp only [w9hp, true_or, or_true]; done) | (rcases w9hp with w9hp | w9hp <;> simp only [w9hp, true_or, or_true] <;> done))))
  k_with "mine enterS" => ((refine wpAny_call ?_; (refine' code_SX ?y57k1 ?y57k2 ?y57k3 ?y57k4 ?y57k5 ?y57XB ?y57TB ?y57D ?y57kA ?y57kF ?y57kK ?y57k6 ?y57k7 ?y57k8 ?y57k9 ?y57kB ?_ ?y57c2 ?y57c3 ?y57c4 ?y57c5; (case y57kA => exact rfl); (case y57kF => exact rfl); (case y57kK => first | exact rfl | assumption); (case y57k2 => k_asm); (case y57k1 => k_asm); (case y57XB => assumption); (case y57TB => assumption); (case y57D => assumption); (case y57k3 => k_asm); (case y57k4 => k_asm); (case y57k5 => k_asm); (case y57k6 => k_is); (case y57k7 => k_is); (case y57k8 => walk_at "mine room"); (case y57k9 => first | exact BindsTo.of_eq rfl | exact binds_K (by k_in) rfl (by k_is) rfl rfl rfl); (case y57c5 => decide); (case y57kB => exact locs rfl); (case y57c2 => exact rfl); (case y57c3 => exact rfl); (case y57c4 => exact rfl); k_whole; intro w9g' w9L' w9h' w9FG' w9F' w9N' w9B' w9X' w9T' w9D'; (try dsimp only); (try k_lift w9B'); (try k_fold))))
  k_with "call type:str" => ((k_here; (with_reducible show wpAny _ _ (call (Value.type "str") [Value.ref _]) _ _ _); k_dflt (refine' str_got ?y58u ?y58F ?y58X ?y58N ?y58G ?y58hs ?y58hi ?_; (case y58G => with_reducible assumption); (case y58N => with_reducible assumption); (case y58F => k_asm); (case y58X => k_asm); (case y58hs => k_is); (case y58hi => k_is); (case y58u => exact units_ok (by with_reducible assumption)); k_whole)))
  k_with "subscriptTail Name BinOp str int" => ((apply StopP.out))
  k_with "call builtin:str.split" => ((apply StopP.out))
  k_with "mine in" => (first | (with_reducible assumption) | exact List.mem_cons_self | (refine List.mem_cons_of_mem _ ?_; walk_at "mine in") | (refine List.mem_append.mpr (.inr ?_); walk_at "mine in"))
  k_with "call builtin:len" => ((k_here; (with_reducible show wpAny _ _ (call (Value.builtin _) [Value.ref _]) _ _ _); refine len_led (by k_asm) (by walk_at "mine in") (by with_reducible assumption) ?_; intro _ _))
  k_with "subscriptTail Name Constant ref int" => (((with_reducible show wpAny _ _ (subscriptTail _ _ (Value.ref _) (Value.int 3 _)) _ _ _); apply StopP.out))
  trivial
noncomputable def StopP (P : Prop) : Prop := P
theorem StopP.out {P : Prop} (h : StopP P) : P := h
theorem units_ok {dp un d : Nat} {gd : Option (List Code)} {cn : Str} {cs : Scope} {a L : Addr} {ccd : Value} {cl : List (Str × Addr)} {outer : List Env} {env : Env} {h : Option Value} (hu : un + 8 * d ≤ 500) : (((ktrTop dp un gd cn cs L a ccd cl outer).deeper env).mark h).in1.in1.units < cLine := by
  show un + 3 + 1 + 1 < 9900
  omega
/-- what _law_reply gives back -/
noncomputable def repR (x : Str) : Option (Option Int) → Value → List (Addr × Obj) → Prop
  | none, v, tl => ∃ a t u, v = .ref a ∧ (a, ({ cls := .type "tuple", data := .seq #[.str (Str.ofString "code") t, .str x u] 0 } : Obj)) ∈ tl
  | some none, v, tl => ∃ a t u, v = .ref a ∧ (a, ({ cls := .type "tuple", data := .seq #[.str (Str.ofString "form") t, .str x u] 0 } : Obj)) ∈ tl
  | some (some n), v, tl => ∃ a t u, v = .ref a ∧ (a, ({ cls := .type "tuple", data := .seq #[.str (Str.ofString "h") t, .int n u] 0 } : Obj)) ∈ tl
theorem vals_len (l : List (Str × Tok)) : (strValues l).toArray.size = (l.map (·.1)).length := by
  rw [List.size_toArray, List.length_map]; exact List.length_map _
theorem vals_at {l : List (Str × Tok)} {i : Nat} {p : Str} (h : (l.map (·.1))[i]? = some p) : ∃ t, (strValues l).toArray[i]? = some (.str p t) := by
  rw [List.getElem?_map] at h
  cases q : l[i]? with
  | none => rw [q] at h; cases h
  | some y =>
    rw [q] at h
    refine ⟨y.2, ?_⟩
    rw [List.getElem?_toArray]
    show (l.map fun p => Value.str p.1 p.2)[i]? = _
    rw [List.getElem?_map, q]
    cases h; rfl
set_option maxHeartbeats 8000000 in
theorem rep_c {w : World} {mean : ExcName → Option Value} {mg mb : Str → Option Value} {news : List (Addr × Obj)} (x : Str) (t : Tok) (o : Option (Option Int)) (hx : x.length ≤ 64) (hrep : rep229 x = some o) :
    ClaimS w mean mg mb 8 122 [.str x t] news (fun v tl => repR x o v tl) := by
  delta ClaimS; k_fill
  intro dp un gd cn cs a ccd cl outer A₀ base h₀ L m s Q E B F X N T XB TB D hk hd hu hret
  walk_at "mine enterS"
  k_steps
  · (rename KtsTurn _ _ _ => kT); (rename Fr _ _ _ _ => f9); (rename News _ _ _ _ => n9); (rename Below _ _ _ _ => kB); (rename KtsDicts _ _ => kD)
    rename (_ != _) = true => q1
    obtain rfl := rep_code hrep q1
    exact hret _ [_, _] _ _ _ kT f9 n9 kB (by assumption) (by assumption) kD ⟨_, _, _, rfl, List.mem_cons_self⟩
  · (rename KtsTurn _ _ _ => kT); (rename Fr _ _ _ _ => f9); (rename News _ _ _ _ => n9); (rename Below _ _ _ _ => kB); (rename KtsDicts _ _ => kD)
    rename (_ != _) = false => q1
    rename Txt.find _ _ < 0 => q2
    obtain rfl := rep_left hrep q1 q2
    exact hret _ [_, _] _ _ _ kT f9 n9 kB (by assumption) (by assumption) kD ⟨_, _, _, rfl, List.mem_cons_self⟩
  · (rename KtsTurn _ _ _ => kT); (rename Fr _ _ _ _ => f9); (rename News _ _ _ _ => n9); (rename Below _ _ _ _ => kB); (rename KtsDicts _ _ => kD)
    rename (_ != _) = false => q1
    rename ¬ Txt.find _ _ < 0 => q2
    rename Txt.find3 _ _ _ < 0 => q3
    obtain rfl := rep_right hrep q1 q2 q3
    exact hret _ [_, _] _ _ _ kT f9 n9 kB (by assumption) (by assumption) kD ⟨_, _, _, rfl, List.mem_cons_self⟩
  · rename (_ != _) = false => q1
    rename ¬ Txt.find _ _ < 0 => q2
    rename ¬ Txt.find3 _ _ _ < 0 => q3
    obtain ⟨g1, g2, g3, g4, hrest⟩ := rep_guard hrep q1 q2 q3
    apply StopP.out
    replace q2 : ¬ lf x < 0 := q2
    replace q3 : ¬ rt x < 0 := q3
    have b1 : fitsSsize (lf x + 1) = true := fitsSsize_of (N := 9223372036854775808) (by omega) (by omega) (Int.le_refl _)
    have b2 : fitsSsize (rt x - 1) = true := fitsSsize_of (N := 9223372036854775808) (by omega) (by omega) (Int.le_refl _)
    have b3 : -(x.length : Int) ≤ lf x + 1 := by omega
    have b4 : -(x.length : Int) ≤ rt x - 1 := by omega
    refine item_str b1 b3 g1 fun hi1 => ?_
    k_steps
    apply StopP.out
    refine item_str b2 b4 g3 fun hi2 => ?_
    k_steps
    · (rename KtsTurn _ _ _ => kT); (rename Fr _ _ _ _ => f9); (rename News _ _ _ _ => n9); (rename Below _ _ _ _ => kB); (rename KtsDicts _ _ => kD)
      rename (_ != _) = true => q4
      obtain rfl := rest_item hrest q4
      exact hret _ [_, _] _ _ _ kT f9 n9 kB (by assumption) (by assumption) kD ⟨_, _, _, rfl, List.mem_cons_self⟩
    · rename (Txt.item _ _ != _) = false => q4
      have hfin := rest_parts hrest q4
      apply StopP.out
      refine item_str b1 b3 g1 fun hi3 => ?_
      k_steps
      apply StopP.out
      (rename Fr _ _ _ _ => f9); (rename News _ _ _ _ => n9); (rename (Txt.slice _ _ _).length ≤ _ => hsl)
      refine splitN1 (hsz := Nat.le_trans (Nat.add_le_add_right (Nat.le_trans hsl hx) 2) (by decide)) f9 n9 rfl fun l h' k e F' N' => ?_
      have hfin2 : fin229 (l.map (·.1)) = some o := by rw [e]; exact hfin
      have hz : (strValues l).toArray.size ≤ 64 := by rw [vals_len, e]; exact Nat.le_trans (fin_small hfin) (by decide)
      k_steps
      · (rename KtsTurn _ _ _ => kT); (rename Fr _ _ _ _ => f9); (rename News _ _ _ _ => n9); (rename Below _ _ _ _ => kB); (rename KtsDicts _ _ => kD)
        rename (_ : Int) ≠ _ => q5
        obtain rfl := fin_form hfin2 (fun h5 => q5 (by rw [vals_len, h5]; rfl))
        exact hret _ [_, _, _] _ _ _ kT f9 n9 kB (by assumption) (by assumption) kD ⟨_, _, _, rfl, List.mem_cons_self⟩
      · rename (_ : Int) = _ => q5
        have h5 : (l.map (·.1)).length = 5 := by rw [← vals_len]; omega
        obtain ⟨n, p, hp, hpl, hpn, rfl⟩ := fin_ok hfin2 h5
        obtain ⟨tp, htp⟩ := vals_at hp
        apply StopP.out
        (rename Fr _ _ _ _ => f9); (rename News _ _ _ _ => n9)
        refine item_at n9 (by walk_at "mine in") (by decide) (by decide) htp ?_
        have hpl2 : p.length ≤ 640 := Nat.le_trans hpl (by decide)
        k_steps
        (rename Fr _ _ _ _ => f9); (rename News _ _ _ _ => n9)
        exact hret _ [_, _, _] h₀ _ _ KtsTurn.refl f9 n9 B X T D ⟨_, _, _, rfl, List.mem_cons_self⟩
end
section
open PySem PySem.W PyProof.Rows PySem.Calls PySem.Spec
open PySem.Builtin PySem.Builtin.Str PySem.StrLaws
noncomputable def focc (c : Nat) : List Nat → Nat → List Nat
  | [], _ => []
  | x :: r, i => if x = c then i :: focc c r (i + 1) else focc c r (i + 1)
theorem occ_loop (x : Str) (c limit : Nat) : ∀ (n i : Nat) (st : Array Nat × Nat), i + n = x.length + 1 → st.snd ≤ i → st.fst.size ≤ limit →
    (forIn (List.range' i n) st (occBody x ⟨#[c]⟩ x.length limit)).run.fst.toList = st.fst.toList ++ (focc c (x.cps.toList.drop i) i).take (limit - st.fst.size)
  | 0, i, st, h, _, _ => by
    have hl : x.cps.toList.length = x.length := Array.length_toList
    rw [List.drop_eq_nil_of_le (by rw [hl]; omega)]
    simp [focc]
  | n + 1, i, st, h, hf, hs => by
    have hl : x.cps.toList.length = x.length := Array.length_toList
    have h1 : (Str.mk #[c]).length = 1 := rfl
    rw [List.range'_succ, List.forIn_cons]
    unfold occBody
    by_cases hi : i < x.length
    · have hd : x.cps.toList.drop i = x.cps.toList[i] :: x.cps.toList.drop (i + 1) := List.drop_eq_getElem_cons (by rw [hl]; exact hi)
      rw [hd]
      by_cases hc : x.cps.toList[i] = c
      · have hsub : i + (Str.mk #[c]).length ≤ x.length ∧ subAt x ⟨#[c]⟩ i = true := (subAt_one x c i).mpr (by rw [List.getElem?_eq_getElem (by rw [hl]; exact hi)]; exact congrArg some hc)
        by_cases hlim : st.fst.size < limit
        · rw [if_pos ⟨⟨⟨hlim, hf⟩, hsub.1⟩, hsub.2⟩]
          have ih := occ_loop x c limit n (i + 1) (st.fst.push i, i + (Str.mk #[c]).length) (by omega) (by show i + (Str.mk #[c]).length ≤ i + 1; rw [h1]; exact Nat.le_refl _) (by simp; omega)
          show (forIn (List.range' (i + 1) n) (st.fst.push i, i + (Str.mk #[c]).length) (occBody x ⟨#[c]⟩ x.length limit)).run.fst.toList = _
          rw [ih]
          obtain ⟨k, hk⟩ : ∃ k, limit - st.fst.size = k + 1 := ⟨limit - st.fst.size - 1, by omega⟩
          have hk2 : limit - (st.fst.push i).size = k := by simp; omega
          simp only [hk2, hk, focc, if_pos hc, List.take_succ_cons, Array.toList_push, List.append_assoc, List.cons_append, List.nil_append]
        · rw [if_neg fun q => hlim q.1.1.1]
          have ih := occ_loop x c limit n (i + 1) (st.fst, st.snd) (by omega) (by show st.snd ≤ i + 1; omega) hs
          show (forIn (List.range' (i + 1) n) (st.fst, st.snd) (occBody x ⟨#[c]⟩ x.length limit)).run.fst.toList = _
          rw [ih]
          have hk : limit - st.fst.size = 0 := by omega
          simp only [hk, List.take_zero]
      · rw [if_neg fun q => hc (by
          have := (subAt_one x c i).mp ⟨q.1.2, q.2⟩
          rw [List.getElem?_eq_getElem (by rw [hl]; exact hi)] at this
          exact Option.some.inj this)]
        have ih := occ_loop x c limit n (i + 1) (st.fst, st.snd) (by omega) (by show st.snd ≤ i + 1; omega) hs
        show (forIn (List.range' (i + 1) n) (st.fst, st.snd) (occBody x ⟨#[c]⟩ x.length limit)).run.fst.toList = _
        rw [ih]
        simp only [focc, if_neg hc]
    · rw [if_neg fun q => hi (by have := q.1.2; rw [h1] at this; omega)]
      have ih := occ_loop x c limit n (i + 1) (st.fst, st.snd) (by omega) (by show st.snd ≤ i + 1; omega) hs
      show (forIn (List.range' (i + 1) n) (st.fst, st.snd) (occBody x ⟨#[c]⟩ x.length limit)).run.fst.toList = _
      rw [ih, List.drop_eq_nil_of_le (by rw [hl]; omega), List.drop_eq_nil_of_le (by rw [hl]; omega)]
      simp [focc]
theorem occ_fast (x : Str) (c lo limit : Nat) (h : lo ≤ x.length) : occurrences x ⟨#[c]⟩ lo x.length limit = (focc c (x.cps.toList.drop lo) lo).take limit := by
  rw [occ_eq, occ_loop x c limit (x.length + 1 - lo) lo (#[], lo) (by omega) (Nat.le_refl _) (Nat.zero_le _)]
  simp
theorem occ_len (c : Nat) : ∀ (l : List Nat) (i : Nat), (focc c l i).length ≤ l.length
  | [], _ => Nat.zero_le _
  | x :: r, i => by
    unfold focc
    split
    · exact Nat.succ_le_succ (occ_len c r (i + 1))
    · exact Nat.le_succ_of_le (occ_len c r (i + 1))
theorem find_fast (x : Str) (c : Nat) : Txt.find x ⟨#[c]⟩ = match focc c x.cps.toList 0 with | i :: _ => (i : Int) | [] => -1 := by
  unfold Txt.find
  rw [occ_fast x c 0 1 (Nat.zero_le _), List.drop_zero]
  cases focc c x.cps.toList 0 <;> rfl
theorem find3_fast (x : Str) (c k : Nat) (h : k ≤ x.length) : Txt.find3 x ⟨#[c]⟩ (k : Int) = match focc c (x.cps.toList.drop k) k with | i :: _ => (i : Int) | [] => -1 := by
  unfold Txt.find3
  have e : fromIndex x.length (k : Int) = k := by unfold fromIndex; omega
  rw [e, occ_fast x c k 1 h]
  cases focc c (x.cps.toList.drop k) k <;> rfl
theorem focc_lt (c : Nat) : ∀ (l : List Nat) (i : Nat), ∀ j ∈ focc c l i, i ≤ j ∧ j < i + l.length
  | [], _, j, h => nomatch h
  | x :: r, i, j, h => by
    unfold focc at h
    split at h
    · rcases List.mem_cons.mp h with rfl | h
      · exact ⟨Nat.le_refl _, by simp⟩
      · have := focc_lt c r (i + 1) j h; simp only [List.length_cons]; omega
    · have := focc_lt c r (i + 1) j h; simp only [List.length_cons]; omega
noncomputable def cutsF (L : List Nat) (cuts : List Nat) : List (List Nat) := ((0 :: cuts.map (· + 1)).zip (cuts ++ [L.length])).map fun p => (L.drop p.1).take (p.2 - p.1)
noncomputable def splitF (c : Nat) (L : List Nat) : List (List Nat) := match focc c L 0 with
  | [] => [L]
  | a :: r => cutsF L (a :: r)
theorem strSub_fast (x : Str) (i j : Nat) : strSub x i j = ⟨((x.cps.toList.drop i).take (j - i)).toArray⟩ := by
  unfold strSub
  congr 1
  rw [← Array.toArray_toList (xs := x.cps.extract i j), Array.toList_extract]
theorem kind_pos (x : Str) : 1 ≤ PySem.Builtin.Str.strKind x := by
  unfold PySem.Builtin.Str.strKind
  split
  · exact Nat.le_refl _
  · split <;> decide
theorem split_fast (x : Str) (c : Nat) (hc : c < 256) (hx : 1 ≤ x.length) : Txt.split x ⟨#[c]⟩ = (splitF c x.cps.toList).map fun l => (⟨l.toArray⟩ : Str) := by
  unfold Txt.split
  have e1 : (decide (x.length < (Str.mk #[c]).length) || decide (PySem.Builtin.Str.strKind x < PySem.Builtin.Str.strKind ⟨#[c]⟩)) = false := by
    have k1 : PySem.Builtin.Str.strKind ⟨#[c]⟩ = 1 := by unfold PySem.Builtin.Str.strKind; simp [hc]
    have k2 := kind_pos x
    rw [k1]
    have a : decide (x.length < (Str.mk #[c]).length) = false := decide_eq_false (by show ¬ x.length < 1; omega)
    have b : decide (PySem.Builtin.Str.strKind x < 1) = false := decide_eq_false (by omega)
    rw [a, b]; rfl
  rw [e1, if_neg (by decide), occ_fast x c 0 (x.length + 1) (Nat.zero_le _), List.drop_zero]
  have e2 : (focc c x.cps.toList 0).take (x.length + 1) = focc c x.cps.toList 0 := by
    refine List.take_of_length_le ?_
    have := occ_len c x.cps.toList 0
    rw [Array.length_toList] at this
    exact Nat.le_succ_of_le this
  rw [e2]
  unfold splitF
  cases hf : focc c x.cps.toList 0 with
  | nil =>
    simp only [List.isEmpty_nil, if_true, List.map_cons, List.map_nil]
  | cons a r =>
    rw [if_neg (by simp)]
    unfold partsBetween cutsF
    simp only [List.map_map]
    have hl : x.cps.toList.length = x.length := Array.length_toList
    rw [hl]
    refine List.map_congr_left fun p _ => ?_
    exact strSub_fast x p.1 p.2
noncomputable def finF (ps : List (List Nat)) : Option (Option (Option Int)) :=
  match ps with
  | [_, _, _, p, _] => if p.length ≤ 64 then (match PySem.intText? ⟨p.toArray⟩ with | some n => some (some (some n)) | none => none) else none
  | _ => if ps.length ≤ 60 then some (some none) else none
theorem fin_fast (ps : List (List Nat)) : fin229 (ps.map fun l => (⟨l.toArray⟩ : Str)) = finF ps := by
  match ps with
  | [] => rfl
  | [_] => rfl
  | [_, _] => rfl
  | [_, _, _] => rfl
  | [_, _, _, _] => rfl
  | [_, _, _, p, _] => rfl
  | _ :: _ :: _ :: _ :: _ :: _ :: r =>
    simp only [List.map_cons, fin229, finF, List.length_cons, List.length_map]
noncomputable def restF (L : List Nat) (i j : Nat) : Option (Option (Option Int)) :=
  if L.getD (i + 1) 0 ≠ L.getD (j - 1) 0 then some (some none) else finF (splitF (L.getD (i + 1) 0) ((L.drop (i + 1)).take (j - (i + 1))))
noncomputable def repF (L : List Nat) : Option (Option (Option Int)) :=
  if L.take 3 ≠ [50, 50, 57] then (if 3 ≤ L.length then some none else none)
  else match focc 40 L 0 with
    | [] => some (some none)
    | i :: _ => match focc 41 (L.drop (i + 1)) (i + 1) with
      | [] => some (some none)
      | j :: _ => if L.getD (i + 1) 0 < 256 ∧ i + 1 < j ∧ L.length ≤ 64 then restF L i j else none
theorem item_fast (x : Str) (i : Nat) (h : i < x.length) : Txt.item x (i : Int) = ⟨#[x.cps.toList.getD i 0]⟩ := by
  unfold Txt.item Txt.charAt seqIndex?
  have hl : x.cps.toList.length = x.length := Array.length_toList
  simp only [show ¬ ((i : Int) < 0) by omega, if_false]
  rw [if_pos (by simp; omega)]
  simp [List.getD]
theorem slice_fast (x : Str) (i j : Nat) (h : i ≤ j) (hj : j ≤ x.length) (hne : j - i < x.length) : Txt.slice x (some (i : Int)) (some (j : Int)) = ⟨((x.cps.toList.drop i).take (j - i)).toArray⟩ := by
  unfold Txt.slice
  rw [sliced_plain x h hj, strSliceIndices_plain h hj]
  rw [if_neg]
  simp only [List.length_map, List.length_range]
  simp; omega
theorem head_fast (x : Str) (h : 3 ≤ x.length) : Txt.slice x none (some 3) = ⟨(x.cps.toList.take 3).toArray⟩ := by
  have e : strSliceIndices none (some 3) 1 x.length = strSliceIndices (some ((0 : Nat) : Int)) (some ((3 : Nat) : Int)) 1 x.length := by
    unfold strSliceIndices
    simp
    rw [show (Max.max (0 : Int) (Min.min 0 (x.length : Int))) = 0 by omega]
  unfold Txt.slice
  rw [e, sliced_plain x (Nat.zero_le _) h, List.drop_zero]
  split
  · rename_i q
    rw [strSliceIndices_plain (Nat.zero_le _) h] at q
    simp only [List.length_map, List.length_range] at q
    have : x.length = 3 := by simp at q; omega
    have hl : x.cps.toList.length = x.length := Array.length_toList
    show x = ⟨(x.cps.toList.take (3 - 0)).toArray⟩
    rw [List.take_of_length_le (by rw [hl, this]; decide), Array.toArray_toList]
  · rfl
theorem head_ne (x : Str) (h : 3 ≤ x.length) : (Txt.slice x none (some 3) != Str.ofString "229") = decide (x.cps.toList.take 3 ≠ [50, 50, 57]) := by
  rw [head_fast x h, show Str.ofString "229" = ⟨#[50, 50, 57]⟩ from by decide +kernel]
  rw [Bool.eq_iff_iff, decide_eq_true_eq, bne_iff_ne]
  constructor
  · intro q e; exact q (by rw [e])
  · intro q e
    apply q
    have : (Str.mk (x.cps.toList.take 3).toArray).cps = #[50, 50, 57] := congrArg Str.cps e
    exact congrArg Array.toList this
theorem rep_fast {x : Str} {o : Option (Option Int)} (h : repF x.cps.toList = some o) : rep229 x = some o := by
  have hl : x.cps.toList.length = x.length := Array.length_toList
  have hp1 : Str.ofString "(" = ⟨#[40]⟩ := by decide +kernel
  have hp2 : Str.ofString ")" = ⟨#[41]⟩ := by decide +kernel
  unfold repF at h
  split at h
  · rename_i h3
    split at h
    · rename_i hlen
      rw [hl] at hlen
      unfold rep229
      rw [if_pos (by rw [head_ne x hlen]; exact decide_eq_true h3)]
      exact h
    · cases h
  · rename_i h3
    have h3' : x.cps.toList.take 3 = [50, 50, 57] := Classical.not_not.mp h3
    have hlen : 3 ≤ x.length := by
      have := congrArg List.length h3'
      rw [List.length_take] at this
      simp at this
      rw [← hl]; simp; omega
    have g1 : (Txt.slice x none (some 3) != Str.ofString "229") = false := by rw [head_ne x hlen]; exact decide_eq_false (fun q => q h3')
    have hfind : lf x = match focc 40 x.cps.toList 0 with | i :: _ => (i : Int) | [] => -1 := by show Txt.find x (Str.ofString "(") = _; rw [hp1]; exact find_fast x 40
    cases hi : focc 40 x.cps.toList 0 with
    | nil =>
      rw [hi] at h hfind
      simp only at h hfind
      unfold rep229
      rw [if_neg (by rw [g1]; decide), if_pos (by rw [hfind]; decide)]
      exact h
    | cons i r =>
      rw [hi] at h hfind
      simp only at h hfind
      have hib := focc_lt 40 x.cps.toList 0 i (by rw [hi]; exact List.mem_cons_self)
      rw [hl] at hib
      have g2 : ¬ lf x < 0 := by rw [hfind]; omega
      have hrt : rt x = match focc 41 (x.cps.toList.drop (i + 1)) (i + 1) with | j :: _ => (j : Int) | [] => -1 := by
        show Txt.find3 x (Str.ofString ")") (lf x + 1) = _
        rw [hfind, hp2]
        exact find3_fast x 41 (i + 1) (by omega)
      cases hj : focc 41 (x.cps.toList.drop (i + 1)) (i + 1) with
      | nil =>
        rw [hj] at h hrt
        simp only at h hrt
        unfold rep229
        rw [if_neg (by rw [g1]; decide), if_neg g2, if_pos (by rw [hrt]; decide)]
        exact h
      | cons j r2 =>
        rw [hj] at h hrt
        simp only at h hrt
        have hjb := focc_lt 41 (x.cps.toList.drop (i + 1)) (i + 1) j (by rw [hj]; exact List.mem_cons_self)
        rw [List.length_drop, hl] at hjb
        split at h
        · rename_i gd
          obtain ⟨gd1, gd2, gd3⟩ := gd
          rw [hl] at gd3
          have g3 : ¬ rt x < 0 := by rw [hrt]; omega
          unfold rep229
          rw [if_neg (by rw [g1]; decide), if_neg g2, if_neg g3, if_pos ⟨by rw [hfind]; omega, by rw [hrt]; omega, by rw [hrt]; omega, gd3⟩]
          have e1 : lf x + 1 = ((i + 1 : Nat) : Int) := by rw [hfind]; omega
          have e2 : rt x - 1 = ((j - 1 : Nat) : Int) := by rw [hrt]; omega
          have it1 : Txt.item x (lf x + 1) = ⟨#[x.cps.toList.getD (i + 1) 0]⟩ := by rw [e1]; exact item_fast x _ (by omega)
          have it2 : Txt.item x (rt x - 1) = ⟨#[x.cps.toList.getD (j - 1) 0]⟩ := by rw [e2]; exact item_fast x _ (by omega)
          unfold restF at h
          unfold rest229
          rw [it1, it2]
          split at h
          · rename_i hne
            rw [if_pos (bne_iff_ne.mpr fun q => hne (by
              have := congrArg Str.cps q
              have := congrArg Array.toList this
              exact List.head_eq_of_cons_eq this))]
            exact h
          · rename_i heq
            rw [if_neg (by rw [Classical.not_not.mp heq]; simp)]
            have e3 : parts229 x = (splitF (x.cps.toList.getD (i + 1) 0) ((x.cps.toList.drop (i + 1)).take (j - (i + 1)))).map fun l => (⟨l.toArray⟩ : Str) := by
              show Txt.split (Txt.slice x (some (lf x + 1)) (some (rt x))) (Txt.item x (lf x + 1)) = _
              rw [it1, e1, hrt, slice_fast x (i + 1) j (by omega) (by omega) (by omega), split_fast _ _ gd1 (by show 1 ≤ (List.toArray _).size; rw [List.size_toArray, List.length_take, List.length_drop, hl]; omega)]
            rw [e3, fin_fast]
            exact h
        · cases h
end
section
open PySem PySem.W PyProof.Rows PySem.Calls PySem.Spec
noncomputable def marksL : List Nat := [124, 33, 35, 59]
noncomputable def stepsL : List (List Nat × List Nat × Int) := [([45], [49], -1), ([45], [50], -2), ([45], [51], -3), ([45], [52], -4), ([], [48], 0), ([], [49], 1), ([], [50], 2), ([], [51], 3), ([], [52], 4), ([43], [48], 0), ([43], [49], 1), ([43], [50], 2), ([43], [51], 3), ([43], [52], 4)]
noncomputable def restL (m : Nat) (s9 sg z d : List Nat) : List Nat := [m] ++ s9 ++ [m] ++ sg ++ z ++ d ++ [m]
noncomputable def rowL (m : Nat) (s7 s9 sg z d : List Nat) : List Nat := [m] ++ s7 ++ restL m s9 sg z d
theorem told_all : (marksL.all fun m => [[], [55]].all fun s7 => [[], [57]].all fun s9 => [[], [48]].all fun z => stepsL.all fun p =>
    decide (repF ([50, 50, 57, 32, 41, 40] ++ rowL m s7 s9 p.1 z p.2.1 ++ [41, 40, 124, 49, 124, 49, 124, 49, 124, 41]) = some (some (some p.2.2)))) = true := by decide +kernel
theorem bent_all : (marksL.all fun m => [[], [55]].all fun s7 => [[], [57]].all fun s9 => [[], [48]].all fun z => stepsL.all fun p =>
    decide (repF ([50, 50, 57, 32, 41, 40] ++ rowL m s7 s9 p.1 z p.2.1 ++ [120, 41]) = some (some none) ∧ repF ([50, 50, 57, 32, 41, 40] ++ rowL m s7 s9 p.1 z p.2.1 ++ [m] ++ [41]) = some (some none) ∧ repF ([50, 50, 57, 32, 41, 40] ++ rowL m s7 s9 p.1 z p.2.1 ++ [120]) = some (some none)
      ∧ repF ([50, 50, 56] ++ [32, 41, 40] ++ rowL m s7 s9 p.1 z p.2.1 ++ [41]) = some none ∧ repF ([49, 50, 57] ++ [32, 41, 40] ++ rowL m s7 s9 p.1 z p.2.1 ++ [41]) = some none)) = true := by decide +kernel
theorem short_all : (marksL.all fun m => [[], [57]].all fun s9 => [[], [48]].all fun z => stepsL.all fun p =>
    decide (repF ([50, 50, 57, 32, 40] ++ restL m s9 p.1 z p.2.1 ++ [41]) = some (some none))) = true := by decide +kernel
theorem app_list (x y : Str) : (x ++ y).cps.toList = x.cps.toList ++ y.cps.toList := by
  show (x.cps ++ y.cps).toList = _
  exact Array.toList_append
noncomputable abbrev markT (kind : Int) : Str := Txt.item (Str.ofString "|!#;") (kind.fmod 4)
theorem mark_is (kind : Int) : ∃ m ∈ marksL, (markT kind).cps.toList = [m] := by
  have h0 := Int.fmod_nonneg_of_pos kind (b := 4) (by decide)
  have h1 := Int.fmod_lt_of_pos kind (b := 4) (by decide)
  unfold markT
  generalize kind.fmod 4 = i at h0 h1
  have : i = 0 ∨ i = 1 ∨ i = 2 ∨ i = 3 := by omega
  rcases this with rfl | rfl | rfl | rfl
  · exact ⟨124, by decide, by decide +kernel⟩
  · exact ⟨33, by decide, by decide +kernel⟩
  · exact ⟨35, by decide, by decide +kernel⟩
  · exact ⟨59, by decide, by decide +kernel⟩
theorem pick2_or {α : Type} (i : Int) (a b : α) : pick2 i a b = a ∨ pick2 i a b = b := by
  unfold pick2; split
  · exact .inl rfl
  · exact .inr rfl
theorem opt_is (i : Int) {x : Str} {n : Nat} (h : x.cps.toList = [n]) : ∃ l ∈ [[], [n]], (pick2 i (Str.ofString "") x).cps.toList = l := by
  rcases pick2_or i (Str.ofString "") x with e | e <;> rw [e]
  · exact ⟨[], by simp, by decide +kernel⟩
  · exact ⟨[n], by simp, h⟩
/-- the sign of a step -/
noncomputable def SgOk (step : Int) (sg : Str) : Prop := (step < 0 ∧ sg = Str.ofString "-") ∨ (0 ≤ step ∧ (sg = Str.ofString "" ∨ sg = Str.ofString "+"))
theorem num_is {step : Int} {sg : Str} (h1 : -4 ≤ step) (h2 : step ≤ 4) (h : SgOk step sg) : ∃ p ∈ stepsL, sg.cps.toList = p.1 ∧ (digT (if step < 0 then -step else step)).cps.toList = p.2.1 ∧ step = p.2.2 := by
  rcases h with ⟨hn, rfl⟩ | ⟨hp, hs⟩
  · have : step = -1 ∨ step = -2 ∨ step = -3 ∨ step = -4 := by omega
    rcases this with rfl | rfl | rfl | rfl
    · exact ⟨([45], [49], -1), by decide, by decide +kernel, by decide +kernel, rfl⟩
    · exact ⟨([45], [50], -2), by decide, by decide +kernel, by decide +kernel, rfl⟩
    · exact ⟨([45], [51], -3), by decide, by decide +kernel, by decide +kernel, rfl⟩
    · exact ⟨([45], [52], -4), by decide, by decide +kernel, by decide +kernel, rfl⟩
  · have : step = 0 ∨ step = 1 ∨ step = 2 ∨ step = 3 ∨ step = 4 := by omega
    rcases hs with rfl | rfl
    · rcases this with rfl | rfl | rfl | rfl | rfl
      · exact ⟨([], [48], 0), by decide, by decide +kernel, by decide +kernel, rfl⟩
      · exact ⟨([], [49], 1), by decide, by decide +kernel, by decide +kernel, rfl⟩
      · exact ⟨([], [50], 2), by decide, by decide +kernel, by decide +kernel, rfl⟩
      · exact ⟨([], [51], 3), by decide, by decide +kernel, by decide +kernel, rfl⟩
      · exact ⟨([], [52], 4), by decide, by decide +kernel, by decide +kernel, rfl⟩
    · rcases this with rfl | rfl | rfl | rfl | rfl
      · exact ⟨([43], [48], 0), by decide, by decide +kernel, by decide +kernel, rfl⟩
      · exact ⟨([43], [49], 1), by decide, by decide +kernel, by decide +kernel, rfl⟩
      · exact ⟨([43], [50], 2), by decide, by decide +kernel, by decide +kernel, rfl⟩
      · exact ⟨([43], [51], 3), by decide, by decide +kernel, by decide +kernel, rfl⟩
      · exact ⟨([43], [52], 4), by decide, by decide +kernel, by decide +kernel, rfl⟩
noncomputable abbrev restT (kind step j l : Int) (sg : Str) : Str := markT kind ++ pick2 j (Str.ofString "") (Str.ofString "9") ++ markT kind ++ sg ++ pick2 l (Str.ofString "") (Str.ofString "0") ++ digT (if step < 0 then -step else step) ++ markT kind
noncomputable abbrev rowP (kind step i j l : Int) (sg : Str) : Str := markT kind ++ pick2 i (Str.ofString "") (Str.ofString "7") ++ restT kind step j l sg
theorem row_is {kind step i j l : Int} {sg : Str} (h1 : -4 ≤ step) (h2 : step ≤ 4) (h : SgOk step sg) : ∃ m ∈ marksL, ∃ s7 ∈ [[], [55]], ∃ s9 ∈ [[], [57]], ∃ z ∈ [[], [48]], ∃ p ∈ stepsL, step = p.2.2 ∧ (markT kind).cps.toList = [m] ∧ (restT kind step j l sg).cps.toList = restL m s9 p.1 z p.2.1 ∧ (rowP kind step i j l sg).cps.toList = rowL m s7 s9 p.1 z p.2.1 := by
  obtain ⟨m, hm, em⟩ := mark_is kind
  obtain ⟨s7, h7, e7⟩ := opt_is i (show (Str.ofString "7").cps.toList = [55] by decide +kernel)
  obtain ⟨s9, h9, e9⟩ := opt_is j (show (Str.ofString "9").cps.toList = [57] by decide +kernel)
  obtain ⟨z, hz, ez⟩ := opt_is l (show (Str.ofString "0").cps.toList = [48] by decide +kernel)
  obtain ⟨p, hp, e1, e2, e3⟩ := num_is h1 h2 h
  have er : (restT kind step j l sg).cps.toList = restL m s9 p.1 z p.2.1 := by
    unfold restT restL
    simp only [app_list, em, e9, ez, e1, e2]
  refine ⟨m, hm, s7, h7, s9, h9, z, hz, p, hp, e3, em, er, ?_⟩
  unfold rowP rowL
  rw [app_list, app_list, em, e7, er]
section
variable {kind step i j l : Int} {sg : Str}
theorem told_rep (h1 : -4 ≤ step) (h2 : step ≤ 4) (h : SgOk step sg) : rep229 (Str.ofString "229 )(" ++ rowP kind step i j l sg ++ Str.ofString ")(|1|1|1|)") = some (some (some step)) := by
  obtain ⟨m, hm, s7, h7, s9, h9, z, hz, p, hp, e, em, er, ew⟩ := row_is (kind := kind) (i := i) (j := j) (l := l) h1 h2 h
  refine rep_fast ?_
  have q := told_all
  simp only [List.all_eq_true, decide_eq_true_eq] at q
  rw [app_list, app_list, ew, show (Str.ofString "229 )(").cps.toList = [50, 50, 57, 32, 41, 40] by decide +kernel, show (Str.ofString ")(|1|1|1|)").cps.toList = [41, 40, 124, 49, 124, 49, 124, 49, 124, 41] by decide +kernel, e]
  exact q m hm s7 h7 s9 h9 z hz p hp
theorem bent_rep (h1 : -4 ≤ step) (h2 : step ≤ 4) (h : SgOk step sg) (k : Int) : rep229 (pick2 k (Str.ofString "228") (Str.ofString "129") ++ Str.ofString " )(" ++ rowP kind step i j l sg ++ Str.ofString ")") = some none ∧ rep229 (Str.ofString "229 )(" ++ rowP kind step i j l sg ++ Str.ofString "x)") = some (some none)
    ∧ rep229 (Str.ofString "229 )(" ++ rowP kind step i j l sg ++ markT kind ++ Str.ofString ")") = some (some none) ∧ rep229 (Str.ofString "229 )(" ++ rowP kind step i j l sg ++ Str.ofString "x") = some (some none) := by
  obtain ⟨m, hm, s7, h7, s9, h9, z, hz, p, hp, e, em, er, ew⟩ := row_is (kind := kind) (i := i) (j := j) (l := l) h1 h2 h
  have q := bent_all
  simp only [List.all_eq_true, decide_eq_true_eq] at q
  obtain ⟨q1, q2, q3, q4, q5⟩ := q m hm s7 h7 s9 h9 z hz p hp
  have a1 : (Str.ofString "229 )(").cps.toList = [50, 50, 57, 32, 41, 40] := by decide +kernel
  have a2 : (Str.ofString "x)").cps.toList = [120, 41] := by decide +kernel
  have a3 : (Str.ofString ")").cps.toList = [41] := by decide +kernel
  have a4 : (Str.ofString "x").cps.toList = [120] := by decide +kernel
  have a5 : (Str.ofString " )(").cps.toList = [32, 41, 40] := by decide +kernel
  have a6 : (Str.ofString "228").cps.toList = [50, 50, 56] := by decide +kernel
  have a7 : (Str.ofString "129").cps.toList = [49, 50, 57] := by decide +kernel
  refine ⟨rep_fast ?_, rep_fast ?_, rep_fast ?_, rep_fast ?_⟩
  · rw [app_list, app_list, app_list, ew, a5, a3]
    rcases pick2_or k (Str.ofString "228") (Str.ofString "129") with c | c <;> rw [c]
    · rw [a6]; exact q4
    · rw [a7]; exact q5
  · rw [app_list, app_list, ew, a1, a2]; exact q1
  · rw [app_list, app_list, app_list, ew, em, a1, a3]; exact q2
  · rw [app_list, app_list, ew, a1, a4]; exact q3
theorem short_rep (h1 : -4 ≤ step) (h2 : step ≤ 4) (h : SgOk step sg) : rep229 (Str.ofString "229 (" ++ restT kind step j l sg ++ Str.ofString ")") = some (some none) := by
  obtain ⟨m, hm, s7, h7, s9, h9, z, hz, p, hp, e, em, er, ew⟩ := row_is (kind := kind) (i := 0) (j := j) (l := l) h1 h2 h
  refine rep_fast ?_
  have q := short_all
  simp only [List.all_eq_true, decide_eq_true_eq] at q
  rw [app_list, app_list, er, show (Str.ofString "229 (").cps.toList = [50, 50, 57, 32, 40] by decide +kernel, show (Str.ofString ")").cps.toList = [41] by decide +kernel]
  exact q m hm s9 h9 z hz p hp
end
theorem bare_rep {step : Int} (h1 : -4 ≤ step) (h2 : step ≤ 4) : rep229 (Str.ofString "229 2 " ++ Str.ofString (toString step) ++ Str.ofString " 2)") = some (some none) ∧ (Str.ofString (toString step)).length ≤ 3 ∧ step.natAbs.log2 < 1920 := by
  have : step = -4 ∨ step = -3 ∨ step = -2 ∨ step = -1 ∨ step = 0 ∨ step = 1 ∨ step = 2 ∨ step = 3 ∨ step = 4 := by omega
  rcases this with rfl | rfl | rfl | rfl | rfl | rfl | rfl | rfl | rfl <;> exact ⟨by decide +kernel, by decide +kernel, by decide +kernel⟩
end
section
open PySem PySem.W PyProof.Rows PySem.Calls PySem.Spec
open LCg
/-- a turn's end, where the base may have turned -/
inductive LoopEndS (L : Addr) (s₁ : Shared) (I : Addr) (oI : Obj) (J : Heap → (Str → Option Value) → List (Addr × Obj) → Prop) (fl : Flow) (s' : Shared) : Prop
  | intro (f1 : (fl = .next ∨ fl = .cont)) (g' h' tk' m' news') (f2 : s' = { s₁ with heap := h', toks := tk' }) (f3 : Fr g' L h' m') (f4 : News g' L h' ((I, oI) :: news')) (f5 : (∀ p ∈ news', p.1 ≠ I)) (f6 : J g' m' news')
/-- over a list of the ledger -/
inductive SrcLS (prog : Program) (w : World) (A : Around) (L : Addr) (env : Env) (x : Str) (body : List Stmt) (Q : Flow → Shared → Prop) (xv : Value) (s₁ : Shared) : Prop
  | intro (ax its g m news) (J : Nat → Heap → (Str → Option Value) → List (Addr × Obj) → Prop) (f1 : xv = .ref ax) (f2 : A.handled = none) (f3 : Fr g L s₁.heap m) (f4 : News g L s₁.heap news) (f5 : (∀ i g m news, J i g m news → ∃ n, (ax, W.listOf its n) ∈ news)) (f6 : J 0 g m news) (f7 : (∀ i v g₁ m₁ news₁ I oI h tk (E' : Value → Shared → Prop), its[i]? = some v → J i g₁ m₁ news₁ → (∀ p ∈ news₁, p.1 ≠ I) → Fr g₁ L h (fun y => if y = x then some v else m₁ y) → News g₁ L h ((I, oI) :: news₁) → wpAny (model prog w) A (execs body env) (LoopEndS L s₁ I oI (J (i + 1))) E' { s₁ with heap := h, toks := tk })) (f8 : ∀ g' h' tk' m' news', J its.size g' m' news' → Fr g' L h' m' → News g' L h' news' → Q .next { s₁ with heap := h', toks := tk' })
section
variable {prog : Program} {w : World} {A : Around} {E : Value → Shared → Prop} {s : Shared} {L : Addr} {env : Env} {x : Str} {px pos : Pos} {iter : Expr} {body : List Stmt} {Q : Flow → Shared → Prop}
inductive ListInvS (L : Addr) (s₁ : Shared) (ax : Addr) (its : Array Value) (J : Nat → Heap → (Str → Option Value) → List (Addr × Obj) → Prop) (k : Nat) (s' : Shared) : Prop
  | intro (g' h' tk i m' news') (f1 : s' = { s₁ with heap := h', toks := tk }) (f2 : i ≤ its.size) (f3 : k = its.size + 1 - i) (f4 : h'.IsListIter s₁.heap.objs.size ax i ∧ h'.IsList ax its) (f5 : g'.get? s₁.heap.objs.size = none) (f6 : Fr g' L h' m') (f7 : News g' L h' news') (f8 : ∀ p ∈ news', p.1 ≠ s₁.heap.objs.size) (f9 : J i g' m' news')
theorem For_listS (hLe : env.locals = L) (hx : env.kindOf x = some .local) (hp : (env.scope.kind == .class || (env.scope.kind == .module && env.locals != env.globals)) = false)
    (h : wpAny (model prog w) A (eval iter env) (SrcLS prog w A L env x body Q) E s)
    (hs : ∀ x, foldedSetIterable iter env x = pure x := by intro _; rfl) :
    wpAny (model prog w) A (exec (.For (.Name x px) iter body [] pos) env) Q E s := by
  subst hLe
  refine wpAny_For (wpAny_mono h (fun xv s₁ h₁ => ?_) fun _ _ e => e) hs
  obtain ⟨ax, its, g, m, news, J, rfl, hh, F, N, hS, j0, step, hQ⟩ := h₁
  have listAt : ∀ {i g m news} {h : Heap}, J i g m news → News g env.locals h news → h.IsList ax its := fun {i g m news h} j N => by
    obtain ⟨n, hm⟩ := hS _ _ _ _ j
    exact News.isList N hm
  have hl := listAt j0 N
  have hlt : ax < s₁.heap.objs.size := by obtain ⟨_, e, _⟩ := hl; exact Heap.lt_size e
  have hLlt : env.locals < s₁.heap.objs.size := F.ns.lt
  have haL : ax ≠ env.locals := by
    obtain ⟨n, hm⟩ := hS _ _ _ _ j0
    exact (N _ hm).2.1
  refine wpAny_pyIter_list hl ?_
  have up : ∀ b o, s₁.heap.get? b = some o → (s₁.heap.push { cls := .type "list_iterator", data := .fields #[.ref ax, .int 0 0] }).get? b = some o := fun b o e => Heap.get?_push_of_some _ e
  have W := Walks.list (prog := prog) (w := w) (A := A) hh s₁.heap.objs.size ax (Nat.ne_of_lt hlt) its
  have hIL : env.locals ≠ s₁.heap.objs.size := Nat.ne_of_lt hLlt
  have hI₀ : g.get? s₁.heap.objs.size = none := next_is_new F
  have off : ∀ p ∈ news, p.1 ≠ s₁.heap.objs.size := fun p hp => Nat.ne_of_lt (Heap.lt_size (N p hp).1)
  have hst0 : (fun (i : Nat) (h : Heap) => h.IsListIter s₁.heap.objs.size ax i ∧ h.IsList ax its) 0 (s₁.heap.push { cls := .type "list_iterator", data := .fields #[.ref ax, .int 0 0] }) := ⟨⟨_, Heap.get?_push_size _ rfl, rfl, rfl⟩, hl.push _⟩
  refine codeAny_forLoop_any
    (ListInvS env.locals s₁ ax its J) ?_ (its.size + 1)
    ⟨g, _, s₁.toks, 0, m, news, rfl, Nat.zero_le _, rfl, hst0, hI₀, F.keeps up, N.grown up, off, j0⟩
  rintro k s' ⟨g', h', tk, i, m', news', rfl, hi, rfl, hst', hI', F', N', off', j'⟩
  by_cases hlt : i < its.size
  · refine W.item i _ _ _ hlt hst' fun x' h₂ tk₂ hPv hst₂ hk₂ => ?_
    have N₂ : News g' env.locals h₂ news' := news_but N' hk₂ off'
    have F₂ := fr_but F' hk₂ hIL hI'
    refine wpAny_of_eq (show letOwnedTupleGo (.Name x px) (.ref s₁.heap.objs.size) x' = pure () from rfl) ?_
    refine wpAny_assign_Name (wpAny_storeName_local hx F₂.ns (fun h₃ hn₃ hs₃ => ?_) hp)
    have F₃ := F₂.set hn₃ hs₃
    have N₃ : News g' env.locals h₃ news' := N₂.set hs₃
    obtain ⟨oI, heI, rI⟩ := hst₂.1
    have heI₃ : h₃.get? s₁.heap.objs.size = some oI := hs₃.extBut _ _ (Ne.symm hIL) heI
    have N₄ : News g' env.locals h₃ ((s₁.heap.objs.size, oI) :: news') := fun p hp => by
      rcases List.mem_cons.mp hp with rfl | hp
      · exact ⟨heI₃, Ne.symm hIL, hI'⟩
      · exact N₃ p hp
    refine wpAny_mono (step i x' g' m' news' _ oI h₃ _ _ hPv j' off' F₃ N₄) (fun fl s₄ h₄ => ?_) fun _ _ e => e
    obtain ⟨hfl, g₄, h₄, tk₄, m₄, news₄, rfl, F₄, N₄, off₄, j₄⟩ := h₄
    have hI₄ := N₄ (s₁.heap.objs.size, oI) List.mem_cons_self
    have N₅ : News g₄ env.locals h₄ news₄ := fun p hp => N₄ p (List.mem_cons_of_mem _ hp)
    have z : ∃ m_1, m_1 < its.size + 1 - i ∧ ListInvS env.locals s₁ ax its J m_1 { s₁ with heap := h₄, toks := tk₄ } :=
      ⟨its.size + 1 - (i + 1), by omega, g₄, h₄, tk₄, i + 1, m₄, news₄, rfl, hlt, rfl, ⟨⟨oI, hI₄.1, rI⟩, listAt j₄ N₅⟩, hI₄.2.2, F₄, N₅, off₄, j₄⟩
    rcases hfl with rfl | rfl <;> exact z
  · obtain rfl : i = its.size := Nat.le_antisymm hi (Nat.not_lt.mp hlt)
    refine W.done _ _ _ hst' fun h₂ tk₂ hk₂ => ?_
    refine wpAny_execs_nil ?_
    exact hQ g' h₂ tk₂ m' news' j' (fr_but F' hk₂ hIL hI') (news_but N' hk₂ off')
end
end
section
open PySem PySem.W PyProof.Rows PySem.Calls PySem.Spec
theorem ClaimS.use {w : World} {mean : ExcName → Option Value} {mg mb : Str → Option Value} {d : Nat} {f : Addr} {vs : List Value} {news : List (Addr × Obj)} {R : Value → List (Addr × Obj) → Prop}
    {dp un : Nat} {gd : Option (List Code)} {cn : Str} {cs : Scope} {a : Addr} {ccd : Value} {cl : List (Str × Addr)} {outer : List Env} {A₀ : Around} {base h₀ g0 : Heap} {L : Addr} {m : Str → Option Value} {s : Shared} {Q E : Value → Shared → Prop}
    (C : ClaimS w mean mg mb d f vs news R) (B : Below A₀ base outer h₀) (F : Fr h₀ L s.heap m) (X : (hd.heap_39 w.params).In h₀) (N : News h₀ L s.heap news) (T : Top hd.view_39 lo mean mg mb h₀) (XB : (hd.heap_39 w.params).In base) (TB : Top hd.view_39 lo mean mg mb base) (D : KtsDicts (outer.filterMap (·.frame)) h₀) (hk : cs.kind = .function)
    (hdp : dp + d ≤ 330) (hu : un + 8 * d ≤ 500) (KT : KtsTurn (outer.filterMap (·.frame)) g0 h₀)
    (k : ∀ (v : Value) (tl : List (Addr × Obj)) (h₀' h' : Heap) (tk' : Nat), KtsTurn (outer.filterMap (·.frame)) g0 h₀' → Fr h₀' L h' m → News h₀' L h' (tl ++ news) → Below A₀ base outer h₀' → (hd.heap_39 w.params).In h₀' → Top hd.view_39 lo mean mg mb h₀' → KtsDicts (outer.filterMap (·.frame)) h₀' → R v tl → Q v { s with heap := h', toks := tk' }) :
      wpAny (model PySem.Challenge.rw_xj0001_01.row.prog w) (ktrTop dp un gd cn cs L a ccd cl outer) (call (.ref f) vs) Q E s :=
  C dp un gd cn cs a ccd cl outer A₀ base h₀ L m s Q E B F X N T XB TB D hk hdp hu fun v tl h₀' h' tk' T' F' N' B' X' T2 D' r => k v tl h₀' h' tk' (KT.trans T') F' N' B' X' T2 D' r
theorem rep_news {g h : Heap} {L : Addr} {x : Str} {c : Prop} [Decidable c] {v : Value} {tl rest : List (Addr × Obj)} {p : Addr × Obj} (N : News g L h (tl ++ (p :: rest))) (r : repR x (if c then none else some none) v tl) :
    ∃ ab tb ub, v = .ref ab ∧ News g L h ((ab, ({ cls := .type "tuple", data := .seq #[.str (if c then Str.ofString "code" else Str.ofString "form") tb, .str x ub] 0 } : Obj)) :: rest) := by
  have N' : ∀ q ∈ tl ++ rest, h.get? q.1 = some q.2 ∧ q.1 ≠ L ∧ g.get? q.1 = none := fun q hq => N q (by
    rcases List.mem_append.mp hq with hq | hq
    · exact List.mem_append.mpr (.inl hq)
    · exact List.mem_append.mpr (.inr (List.mem_cons_of_mem _ hq)))
  by_cases hc : c
  · rw [if_pos hc] at r ⊢
    obtain ⟨ab, tb, ub, e, hm⟩ := r
    refine ⟨ab, tb, ub, e, fun q hq => ?_⟩
    rcases List.mem_cons.mp hq with rfl | hq
    · exact N' _ (List.mem_append.mpr (.inl hm))
    · exact N' q (List.mem_append.mpr (.inr hq))
  · rw [if_neg hc] at r ⊢
    obtain ⟨ab, tb, ub, e, hm⟩ := r
    refine ⟨ab, tb, ub, e, fun q hq => ?_⟩
    rcases List.mem_cons.mp hq with rfl | hq
    · exact N' _ (List.mem_append.mpr (.inl hm))
    · exact N' q (List.mem_append.mpr (.inr hq))
theorem rep_form {g h : Heap} {L : Addr} {x : Str} {v : Value} {tl rest : List (Addr × Obj)} (N : News g L h (tl ++ rest)) (r : repR x (some none) v tl) :
    ∃ ab tb ub, v = .ref ab ∧ News g L h ((ab, ({ cls := .type "tuple", data := .seq #[.str (Str.ofString "form") tb, .str x ub] 0 } : Obj)) :: rest) := by
  obtain ⟨ab, tb, ub, e, hm⟩ := r
  refine ⟨ab, tb, ub, e, fun q hq => ?_⟩
  rcases List.mem_cons.mp hq with rfl | hq
  · exact N _ (List.mem_append.mpr (.inl hm))
  · exact N q (List.mem_append.mpr (.inr hq))
theorem ok_list {x : Str} (h : ∀ c ∈ x.cps.toList, c < 0x110000) : PySem.PyData.strOk x = true := by
  unfold PySem.PyData.strOk
  rw [← Array.all_toList, List.all_eq_true]
  exact fun c hc => decide_eq_true (h c hc)
theorem ok_mem {x : Str} (h : PySem.PyData.strOk x = true) : ∀ c ∈ x.cps.toList, c < 0x110000 := by
  unfold PySem.PyData.strOk at h
  rw [← Array.all_toList, List.all_eq_true] at h
  exact fun c hc => of_decide_eq_true (h c hc)
theorem ok_app {x y : Str} (hx : PySem.PyData.strOk x = true) (hy : PySem.PyData.strOk y = true) : PySem.PyData.strOk (x ++ y) = true := ok_list fun c hc => by
  rw [app_list] at hc
  rcases List.mem_append.mp hc with hc | hc
  · exact ok_mem hx c hc
  · exact ok_mem hy c hc
theorem ok_mark (kind : Int) : PySem.PyData.strOk (markT kind) = true := ok_list fun c hc => by
  obtain ⟨m, hm, e⟩ := mark_is kind
  rw [e] at hc
  rw [List.mem_singleton.mp hc]
  have : ∀ m ∈ marksL, m < 0x110000 := by decide
  exact this m hm
theorem ok_pick2 {i : Int} {x y : Str} (hx : PySem.PyData.strOk x = true) (hy : PySem.PyData.strOk y = true) : PySem.PyData.strOk (pick2 i x y) = true := by
  rcases pick2_or i x y with e | e <;> rw [e] <;> assumption
theorem ok_sg {step : Int} {sg : Str} (h : SgOk step sg) : PySem.PyData.strOk sg = true := by
  rcases h with ⟨_, rfl⟩ | ⟨_, rfl | rfl⟩ <;> decide +kernel
theorem ok_dig {b : Int} (h : b ≤ 9) : PySem.PyData.strOk (digT b) = true := ok_list fun c hc => by
  have : c = 48 + b.toNat := by simpa [digT] using hc
  omega
theorem ok_rest {kind step j l : Int} {sg : Str} (h2 : step ≤ 4) (h1 : -4 ≤ step) (h : SgOk step sg) : PySem.PyData.strOk (restT kind step j l sg) = true :=
  ok_app (ok_app (ok_app (ok_app (ok_app (ok_app (ok_mark _) (ok_pick2 (by decide +kernel) (by decide +kernel))) (ok_mark _)) (ok_sg h)) (ok_pick2 (by decide +kernel) (by decide +kernel))) (ok_dig (by split <;> omega))) (ok_mark _)
theorem ok_row {kind step i j l : Int} {sg : Str} (h2 : step ≤ 4) (h1 : -4 ≤ step) (h : SgOk step sg) : PySem.PyData.strOk (rowP kind step i j l sg) = true :=
  ok_app (ok_app (ok_mark _) (ok_pick2 (by decide +kernel) (by decide +kernel))) (ok_rest h2 h1 h)
theorem ok_bent {kind step i j l k way : Int} {sg : Str} (h2 : step ≤ 4) (h1 : -4 ≤ step) (h : SgOk step sg) : PySem.PyData.strOk (pick4 way (pick2 k (Str.ofString "228") (Str.ofString "129") ++ Str.ofString " )(" ++ rowP kind step i j l sg ++ Str.ofString ")") (Str.ofString "229 )(" ++ rowP kind step i j l sg ++ Str.ofString "x)")
    (Str.ofString "229 )(" ++ rowP kind step i j l sg ++ markT kind ++ Str.ofString ")") (Str.ofString "229 )(" ++ rowP kind step i j l sg ++ Str.ofString "x")) = true := by
  unfold pick4
  split
  · exact ok_app (ok_app (ok_app (ok_pick2 (by decide +kernel) (by decide +kernel)) (by decide +kernel)) (ok_row h2 h1 h)) (by decide +kernel)
  split
  · exact ok_app (ok_app (by decide +kernel) (ok_row h2 h1 h)) (by decide +kernel)
  split
  · exact ok_app (ok_app (ok_app (by decide +kernel) (ok_row h2 h1 h)) (ok_mark _)) (by decide +kernel)
  · exact ok_app (ok_app (by decide +kernel) (ok_row h2 h1 h)) (by decide +kernel)
theorem ok_short {kind step j l : Int} {sg : Str} (h2 : step ≤ 4) (h1 : -4 ≤ step) (h : SgOk step sg) : PySem.PyData.strOk (Str.ofString "229 (" ++ restT kind step j l sg ++ Str.ofString ")") = true :=
  ok_app (ok_app (by decide +kernel) (ok_rest h2 h1 h)) (by decide +kernel)
theorem ok_bare {step : Int} (h1 : -4 ≤ step) (h2 : step ≤ 4) : PySem.PyData.strOk (Str.ofString "229 2 " ++ Str.ofString (toString step) ++ Str.ofString " 2)") = true := by
  have : step = -4 ∨ step = -3 ∨ step = -2 ∨ step = -1 ∨ step = 0 ∨ step = 1 ∨ step = 2 ∨ step = 3 ∨ step = 4 := by omega
  rcases this with rfl | rfl | rfl | rfl | rfl | rfl | rfl | rfl | rfl <;> decide +kernel
theorem ok_tag {c : Prop} [Decidable c] : PySem.PyData.strOk (if c then Str.ofString "code" else Str.ofString "form") = true := by split <;> decide +kernel
/-- the invariant of the loop over the short texts: the base may turn -/
noncomputable def JSh (w : World) (mean : ExcName → Option Value) (mg mb : Str → Option Value) (A₁ : Around) (base : Heap) (fs : List Env) (gG : Heap) (ar : Addr) (LED : List (Addr × Obj)) (_ : Nat) (g : Heap) (m : Str → Option Value) (led : List (Addr × Obj)) : Prop :=
  m (Str.ofString "told") = some (.ref ar) ∧ led = LED ∧ Below A₁ base fs g ∧ (hd.heap_39 w.params).In g ∧ Top hd.view_39 lo mean mg mb g ∧ KtsDicts (fs.filterMap (·.frame)) g ∧ KtsTurn (fs.filterMap (·.frame)) gG g
theorem news_13 {h₀ h : Heap} {L : Addr} {x y z u : Addr × Obj} {l : List (Addr × Obj)} (N : News h₀ L h (x :: y :: z :: u :: l)) : News h₀ L h (x :: u :: l) := fun p hp => N p (by
  simp only [List.mem_cons] at hp ⊢
  rcases hp with hp | hp | hp <;> simp [hp])
theorem news_drop2 {h₀ h : Heap} {L : Addr} {x y : Addr × Obj} {l : List (Addr × Obj)} (N : News h₀ L h (x :: y :: l)) : News h₀ L h l := fun p hp => N p (List.mem_cons_of_mem _ (List.mem_cons_of_mem _ hp))
theorem hS_of {led rest : List (Addr × Obj)} {ax : Addr} {its : Array Value} {n : Nat} (e : led = (ax, W.listOf its n) :: rest) : ∃ n, (ax, W.listOf its n) ∈ led := ⟨n, e ▸ List.mem_cons_self⟩
section
variable {prog : Program} {w : World} {A : Around} {E : Value → Shared → Prop} {s : Shared} {h₀ : Heap} {L : Addr} {m : Str → Option Value} {news : List (Addr × Obj)} {Q : Value → Shared → Prop}
theorem add_letter {a b : Nat} {x y : Str} {t u : Tok} (hx : x.length ≤ a) (hy : y.length ≤ b) (hab : a + b ≤ 4000) (h : ∀ z t' k, z = x ++ y → z.length ≤ a + b → Q (.str z t') { s with toks := k }) : wpAny (model prog w) A (binaryOp .Add (.str x t) (.str y u)) Q E s :=
  add_str (fun t' k => h _ t' k rfl (by rw [PySem.Str.length_append]; omega)) (Nat.le_trans (Nat.add_le_add hx hy) (Nat.le_trans hab (by decide)))
theorem str_step {a : Int} {u : Tok} (h1 : -4 ≤ a) (h2 : a ≤ 4) (h : ∀ t k, (Str.ofString (toString a)).length ≤ 3 → Q (.str (Str.ofString (toString a)) t) { s with toks := k }) : wpAny (model prog w) A (call (.type "str") [.int a u]) Q E s :=
  P.str_of_int (bare_rep h1 h2).2.2 (h _ _ (bare_rep h1 h2).2.1)
theorem bent_pick {kind step i j l k way : Int} {sg : Str} (h1 : -4 ≤ step) (h2 : step ≤ 4) (h : SgOk step sg) : rep229 (pick4 way (pick2 k (Str.ofString "228") (Str.ofString "129") ++ Str.ofString " )(" ++ rowP kind step i j l sg ++ Str.ofString ")") (Str.ofString "229 )(" ++ rowP kind step i j l sg ++ Str.ofString "x)")
    (Str.ofString "229 )(" ++ rowP kind step i j l sg ++ markT kind ++ Str.ofString ")") (Str.ofString "229 )(" ++ rowP kind step i j l sg ++ Str.ofString "x")) = some (if way = 0 then none else some none) := by
  obtain ⟨e1, e2, e3, e4⟩ := bent_rep (kind := kind) (i := i) (j := j) (l := l) h1 h2 h k
  unfold pick4
  by_cases w0 : way = 0
  · rw [if_pos w0, if_pos w0]; exact e1
  rw [if_neg w0, if_neg w0]
  split
  · exact e2
  split
  · exact e3
  · exact e4
theorem ne_tups {a b : Addr} {x y : Str} {t1 t2 t3 t4 : Tok} {rest : List (Addr × Obj)} (N : News h₀ L s.heap ((b, ({ cls := .type "tuple", data := .seq #[.str y t1, .str x t2] 0 } : Obj)) :: (a, ({ cls := .type "tuple", data := .seq #[.str y t3, .str x t4] 0 } : Obj)) :: rest))
    (oy : PySem.PyData.strOk y = true) (ox : PySem.PyData.strOk x = true) (hu : A.units + 64 < cLine) (h : Q (.bool false) s) : wpAny (model prog w) A (compareOp .NotEq (.ref a) (.ref b)) Q E s := by
  have sh : PySem.SeqAt.shaped (.tuple [.str y, .str x]) = true := by
    unfold PySem.SeqAt.shaped
    simp [PyData.canLay0, PyData.canLayAll0, PyData.depth, PyData.depthAll, oy, ox]
  refine ne_dataH (reads_tuple_at (N (a, _) (List.mem_cons_of_mem _ List.mem_cons_self)).1 rfl rfl (ReadsAll.cons (Reads.str _ _) (ReadsAll.cons (Reads.str _ _) ReadsAll.nil))) (reads_tuple_at (N (b, _) List.mem_cons_self).1 rfl rfl (ReadsAll.cons (Reads.str _ _) (ReadsAll.cons (Reads.str _ _) ReadsAll.nil))) sh sh hu ?_
  simp only [PyData.eqv, PyData.eqvAll, beq_self_eq_true, Bool.and_true, Bool.true_and, Bool.not_true]
  exact h
theorem units_ok2 {dp un d : Nat} {gd : Option (List Code)} {cn : Str} {cs : Scope} {a L : Addr} {ccd : Value} {cl : List (Str × Addr)} {outer : List Env} {env : Env} (hu : un + 8 * d ≤ 500) : ((ktrTop dp un gd cn cs L a ccd cl outer).deeper env).units + 64 < cLine := by
  show un + 3 + 64 < 9900
  omega
end
end
section
open PySem PySem.W PyProof.Rows PySem.Calls PySem.Spec
theorem words_Q1 : True := by
  w_top off
  k_with_none
  k_with "mine room" => ((simp only [depth_under_make, depth_under_kw, depth_in1, depth_deeper, depth_caller, recursionLimit] at *; (try dsimp only [ktrTop] at *); omega))
  k_with "mine enter" => ((refine wpAny_call ?_; first
  | (refine' code_def ?y2k1 ?y2k2 ?y2k3 ?y2k4 ?y2k5 ?y2kA ?y2kF ?y2kK ?y2k6 ?y2k7 ?y2k8 ?y2k9 ?y2kB ?_ ?y2c2 ?y2c3 ?y2c4 ?y2c5; (case y2kA => exact rfl); (case y2kF => exact rfl); (case y2kK => first | exact rfl | assumption); (case y2k1 => k_asm); (case y2k2 => k_asm); (case y2k3 => k_asm); (case y2k4 => k_asm); (case y2k5 => k_asm); (case y2k6 => k_is); (case y2k7 => k_is); (case y2k8 => walk_at "mine room"); (case y2k9 => first | exact BindsTo.of_eq rfl | exact binds_K (by k_in) rfl (by k_is) rfl rfl rfl); (case y2c5 => decide); (case y2kB => exact locs rfl); (case y2c2 => exact rfl); (case y2c3 => exact rfl); (case y2c4 => exact rfl); k_whole; intro w9g' w9L' w9h' w9FG' w9F' w9N' w9B' w9X' w9T'; (try dsimp only); (try k_lift w9B'); (try k_fold))
  | (refine' code_defC ?y2k1 ?y2k2 ?y2k3 ?y2k4 ?y2k5 ?y2kA ?y2kF ?y2kK ?y2k6 ?y2k7 ?y2k8 ?y2k9 ?y2kB ?y2kD ?_ ?y2c2 ?y2c3 ?y2c4; (case y2kA => exact rfl); (case y2kF => exact rfl); (case y2kK => first | exact rfl | assumption); (case y2k1 => k_asm); (case y2k2 => k_asm); (case y2k3 => k_asm); (case y2k4 => k_asm); (case y2k5 => k_asm); (case y2k6 => k_is); (case y2k7 => k_is); (case y2k8 => walk_at "mine room"); (case y2k9 => first | exact BindsTo.of_eq rfl | exact binds_K (by k_in) rfl (by k_is) rfl rfl rfl); (case y2kB => exact rfl); (case y2kD => decide +kernel); (case y2c2 => exact rfl); (case y2c3 => exact rfl); (case y2c4 => exact rfl); k_whole; intro w9g' w9L' w9h' w9tk' w9cells' w9FG' w9F' w9N' w9Y' w9B' w9X' w9T' w9l1; (try k_lt w9l1); k_cells w9Y'; (try simp only [List.cons_append, List.nil_append] at w9N'); (try dsimp only); (try k_lift w9B'); (try k_fold))))
  k_with "call ref" => ((k_here; k_dflt (walk_at "mine enter")))
  k_with "execs cons" => ((k_here; (try k_gentoks); (try dsimp only); (with_reducible refine wpAny_execs_cons ?_); (try dsimp only); k_fold))
  k_with "mine bound" => (first | omega | exact Int.fmod_nonneg_of_pos _ (by decide) | exact Int.fmod_lt_of_pos _ (by decide))
  k_with "mine short" => (first | exact Nat.le_of_ble_eq_true rfl | ((try simp only [PySem.Str.length_append]); (try kopn_lits); omega))
  k_with "mine open" => ((fail_if_success (with_reducible show wpAny _ _ (subscriptTail _ (Expr.Constant _ _ _) _ _) _ _ _)))
  k_with "subscriptTail" => ((k_here; (with_reducible show wpAny _ _ (subscriptTail _ _ (Value.ref _) (Value.int _ _)) _ _ _); walk_at "mine open"; k_dflt (first
  | (refine item_pickS4 3 (by k_asm) (List.Mem.head _) (by walk_at "mine bound") (by walk_at "mine bound") (by walk_at "mine short") (by walk_at "mine short") (by walk_at "mine short") (by walk_at "mine short") ?_; intro _ _)
  | (refine item_pickS4 60 (by k_asm) (List.Mem.head _) (by walk_at "mine bound") (by walk_at "mine bound") (by walk_at "mine short") (by walk_at "mine short") (by walk_at "mine short") (by walk_at "mine short") ?_; intro _ _)
  | (refine item_pickS2 (by k_asm) (List.Mem.head _) (by walk_at "mine bound") (by walk_at "mine bound") (by walk_at "mine short") (by walk_at "mine short") ?_; intro _ _)
  | (refine item_pickI2 (by k_asm) (List.Mem.head _) (by walk_at "mine bound") (by walk_at "mine bound") ?_; intro _))))
  k_with "mine mem" => (first | exact List.Mem.head _ | (refine List.Mem.tail _ ?_; walk_at "mine mem"))
  k_with "pyIter ref" => (((with_reducible show wpAny _ _ (pyIter (Value.ref _)) (fun it s₂ => LoopAtV _ _ _ _ _ _ _ _ _ it s₂) _ _); with_unfolding_all refine iter_listUnr (by rfl) (by k_asm) (by k_asm) (by walk_at "mine mem") (by rfl) (by rfl) ?_; intro w9i' w9l1))
  k_with "UnrEnd" => ((refine unrEnd_of (by k_asm) (by k_asm) (by assumption) ⟨by walk_at "mine mem", ?_⟩))
  k_with "pyIter ref" => (((with_reducible show wpAny _ _ (pyIter (Value.ref _)) (fun it s₂ => TurnsAt _ _ _ _ _ _ _ _ _ it s₂) _ _); with_unfolding_all refine iter_listTurns (by rfl) (by k_asm) (by k_asm) (by walk_at "mine mem") (by rfl) (by rfl) ?_; intro w9i' w9l1))
  k_with "UnrEndW" => ((refine unrEndW_of (by k_asm) (by k_asm) (by assumption) ⟨⟨by walk_at "mine mem", trivial⟩, ?_⟩))
  k_with "mine sub" => ((intro w9p w9hp; first | exact w9hp | (simp only [List.mem_cons, List.mem_append] at w9hp ⊢; first | (simp only [w9hp, true_or, or_true]; done) | (rcases w9hp with w9hp | w9hp <;> simp only [w9hp, true_or, or_true] <;> done))))
  k_with "mine enterS" => ((refine wpAny_call ?_; (refine' code_SX ?y64k1 ?y64k2 ?y64k3 ?y64k4 ?y64k5 ?y64XB ?y64TB ?y64D ?y64kA ?y64kF ?y64kK ?y64k6 ?y64k7 ?y64k8 ?y64k9 ?y64kB ?_ ?y64c2 ?y64c3 ?y64c4 ?y64c5; (case y64kA => exact rfl); (case y64kF => exact rfl); (case y64kK => first | exact rfl | assumption); (case y64k2 => k_asm); (case y64k1 => k_asm); (case y64XB => assumption); (case y64TB => assumption); (case y64D => assumption); (case y64k3 => k_asm); (case y64k4 => k_asm); (case y64k5 => k_asm); (case y64k6 => k_is); (case y64k7 => k_is); (case y64k8 => walk_at "mine room"); (case y64k9 => first | exact BindsTo.of_eq rfl | exact binds_K (by k_in) rfl (by k_is) rfl rfl rfl); (case y64c5 => decide); (case y64kB => exact locs rfl); (case y64c2 => exact rfl); (case y64c3 => exact rfl); (case y64c4 => exact rfl); k_whole; intro w9g' w9L' w9h' w9FG' w9F' w9N' w9B' w9X' w9T' w9D'; (try dsimp only); (try k_lift w9B'); (try k_fold))))
  k_with "call builtin:abs" => ((k_here; refine abs_k (by assumption) (by assumption) ?_; intro _ _ _ _ _ _))
  k_with "call ref" => ((apply StopQ.out))
  k_with "mine le" => (first | (with_reducible assumption) | exact Nat.le_of_eq (by with_reducible assumption) | exact lit10 rfl)
  k_with "mine le60" => (exact Nat.le_trans (by with_reducible assumption) (Nat.le_of_ble_eq_true rfl))
  k_with "binaryOp Add str str" => ((k_here; k_dflt (refine add_letter (by walk_at "mine le") (by walk_at "mine le") (Nat.le_of_ble_eq_true rfl) ?_; intro _ _ _ _ _)))
  k_with "eval IfExp" => (((with_reducible show wpAny _ _ (eval (Expr.IfExp (Expr.Compare _ [CmpOp.Lt] _ _) _ _ _) _) _ _ _); apply StopQ.out))
  k_with "eval IfExp" => (((with_reducible show wpAny _ _ (eval (Expr.IfExp (Expr.Compare _ [CmpOp.Eq] _ _) _ _ _) _) _ _ _); apply StopQ.out))
  k_with "call type:str" => ((k_here; (with_reducible show wpAny _ _ (call (Value.type "str") [Value.int _ _]) _ _ _); first | (refine str_k (by omega) (by omega) ?_; intro _ _ w9h1; replace w9h1 := Nat.le_of_eq w9h1) | (refine str_step (by omega) (by omega) ?_; intro _ _ _)))
  k_with "subscriptTail" => ((k_here; (with_reducible show wpAny _ _ (subscriptTail (Expr.List [_, _, _, _] _) _ (Value.ref _) (Value.int _ _)) _ _ _); k_dflt (refine item_pickS4 60 (by k_asm) (List.Mem.head _) (by walk_at "mine bound") (by walk_at "mine bound") (by walk_at "mine le60") (by walk_at "mine le60") (by walk_at "mine le60") (by walk_at "mine le60") ?_; intro _ _)))
  k_with "exec For Name List cons nil" => ((k_here; k_dflt ((with_unfolding_all refine' For_listS ?y74k0 ?y74k1 ?y74k2 ?_); (case y74k0 => exact rfl); (case y74k1 => exact rfl); (case y74k2 => exact rfl); k_whole)))
  trivial
noncomputable def StopQ (P : Prop) : Prop := P
theorem StopQ.out {P : Prop} (h : StopQ P) : P := h
theorem lit10 {x : String} (h : Nat.ble (Str.ofString x).length 10 = true) : (Str.ofString x).length ≤ 10 := Nat.le_of_ble_eq_true h
set_option maxHeartbeats 4000000 in
theorem port_c {w : World} {mean : ExcName → Option Value} {mg mb : Str → Option Value} {news : List (Addr × Obj)} (step kind : Int) (t1 t2 : Tok) (h1 : -4 ≤ step) (h2 : step ≤ 4) (h3 : 0 ≤ kind) (h4 : kind < 256) :
    ClaimS w mean mg mb 18 129 [.int step t1, .int kind t2] news (fun v tl => ∃ t, v = .int step t) := by
  delta ClaimS; k_fill
  intro dp un gd cn cs a ccd cl outer A₀ base h₀ L m s Q E B F X N T XB TB D hk hdp hu hret
  walk_at "mine enterS"
  k_steps
  apply StopQ.out
  (rename Fr _ _ _ _ => f9); (rename News _ _ _ _ => n9)
  refine join_str (P := fun sg => sg.length ≤ 3 ∧ SgOk step sg) f9 n9 ?sgn fun sg ut h' tk' F' N' hsg => ?_
  case sgn =>
    refine IfExp_ ?_
    k_steps
    · (rename Fr _ _ _ _ => f8); (rename News _ _ _ _ => n8)
      exact ⟨_, _, _, _, rfl, rfl, f8, n8, by decide, .inl ⟨by assumption, rfl⟩⟩
    · (rename Fr _ _ _ _ => f8); (rename News _ _ _ _ => n8)
      refine ⟨_, _, _, _, rfl, rfl, f8, fun p hp => n8 p (List.mem_cons_of_mem _ hp), by assumption, .inr ⟨by omega, pick2_or _ _ _⟩⟩
  clear f9 n9
  obtain ⟨hsl, hsg⟩ := hsg
  k_steps
  apply StopQ.out
  (rename Fr _ _ _ _ => f9); (rename News _ _ _ _ => n9); (rename Below _ _ _ _ => b9)
  refine' ClaimS.use (rep_c _ _ (some (some step)) ?hl ?hr) b9 f9 ?X n9 ?T XB TB ?D ?K ?d ?u ?KT ?_
  case hl => exact Nat.le_trans (by with_reducible assumption) (Nat.le_of_ble_eq_true rfl)
  case hr => subst_vars; exact told_rep h1 h2 hsg
  case X => k_asm
  case T => k_asm
  case D => with_reducible assumption
  case K => exact rfl
  case d => walk_at "mine room"
  case u => walk_at "mine room"
  case KT => exact KtsTurn.refl
  k_whole
  intro v' tl' g2 h' tk' T2 F' N' B' X' P' D' r'
  obtain ⟨ar, tr, ur, rfl, hm⟩ := r'
  have N2 : News g2 _ h' ((ar, _) :: news) := fun p hp => by
    rcases List.mem_cons.mp hp with rfl | hp
    · exact N' _ (List.mem_append.mpr (.inl hm))
    · exact N' p (List.mem_append.mpr (.inr (by simp [hp])))
  clear N' n9 f9
  k_steps
  apply StopQ.out
  (rename Fr _ _ _ _ => f9); (rename News _ _ _ _ => n9); (rename Below _ _ _ _ => b9)
  refine' ClaimS.use (rep_c _ _ (if (kind.fdiv 16).fmod 4 = 0 then none else some none) ?hl ?hr) b9 f9 ?X n9 ?T XB TB ?D ?K ?d ?u ?KT ?_
  case hl => exact Nat.le_trans (by with_reducible assumption) (Nat.le_of_ble_eq_true rfl)
  case hr => subst_vars; exact bent_pick h1 h2 hsg
  case X => k_asm
  case T => k_asm
  case D => with_reducible assumption
  case K => exact rfl
  case d => walk_at "mine room"
  case u => walk_at "mine room"
  case KT => with_reducible assumption
  k_whole
  intro v' tl' g3 h' tk' T3 F' N' B' X' P' D' r'
  have N3 := rep_news N' r'
  clear N' n9 f9 r'
  obtain ⟨ab, tb, ub, rfl, N3⟩ := N3
  k_steps
  apply StopQ.out
  (rename Fr _ _ _ _ => f9); (rename News _ _ _ _ => n9)
  refine join_str (P := fun sg => sg = if (kind.fdiv 16).fmod 4 = 0 then Str.ofString "code" else Str.ofString "form") f9 n9 ?tag fun tg ut2 h' tk' F' N' htg => ?_
  case tag =>
    refine IfExp_ ?_
    k_steps
    · (rename Fr _ _ _ _ => f8); (rename News _ _ _ _ => n8)
      exact ⟨_, _, _, _, rfl, rfl, f8, n8, by rw [if_pos (by assumption)]⟩
    · (rename Fr _ _ _ _ => f8); (rename News _ _ _ _ => n8)
      exact ⟨_, _, _, _, rfl, rfl, f8, n8, by rw [if_neg (by assumption)]⟩
  rw [← htg] at N'
  clear f9 n9
  k_steps
  (rename News _ _ _ _ => n9)
  refine ne_tups n9 (by rw [htg]; exact ok_tag) (by subst_vars; exact ok_bent h2 h1 hsg) (units_ok2 hu) ?_
  k_steps
  (rename Fr _ _ _ _ => f9); (rename News _ _ _ _ => n9); (rename Below _ _ _ _ => b9)
  refine' ⟨_, _, g3, _, (_, _) :: (ar, _) :: news, JSh w mean mg mb _ _ _ _ ar _, rfl, rfl, f9, news_13 n9, fun _ _ _ _ hJ => hS_of hJ.2.1, ⟨rfl, rfl, b9, X', P', D', T3⟩, ?step, ?fin⟩
  case step =>
    intro i v g₁ m₁ led I oI h5 tk5 E5 hv hJ off5 F5 N5
    obtain ⟨hm1, rfl, b5, x5, p5, d5, t5⟩ := hJ
    obtain ⟨m2, rfl⟩ := m_is1 hm1
    obtain ⟨z, tz, rfl, zl, zr, zo⟩ : ∃ z tz, v = .str z tz ∧ z.length ≤ 64 ∧ rep229 z = some (some none) ∧ PySem.PyData.strOk z = true := by
      match i, hv with
      | 0, hv => cases hv; exact ⟨_, _, rfl, Nat.le_trans (by with_reducible assumption) (Nat.le_of_ble_eq_true rfl), by subst_vars; exact short_rep h1 h2 hsg, by subst_vars; exact ok_short h2 h1 hsg⟩
      | 1, hv => cases hv; exact ⟨_, _, rfl, Nat.le_trans (by with_reducible assumption) (Nat.le_of_ble_eq_true rfl), by subst_vars; exact (bare_rep h1 h2).1, by subst_vars; exact ok_bare h1 h2⟩
      | i + 2, hv => cases hv
    k_steps
    apply StopQ.out
    (rename Fr _ _ _ _ => f9); (rename News _ _ _ _ => n9)
    refine' ClaimS.use (rep_c _ _ (some none) zl zr) b5 f9 ?X n9 ?T XB TB ?D ?K ?d ?u ?KT ?_
    case X => exact x5
    case T => exact p5
    case D => exact d5
    case K => exact rfl
    case d => walk_at "mine room"
    case u => walk_at "mine room"
    case KT => exact t5
    k_whole
    intro v' tl' g4 h' tk' T4 F' N' B' X' P' D' r'
    obtain ⟨ab, tb, ub, rfl, N3⟩ := rep_form N' r'
    clear N' n9 f9 r' b5 x5 p5 d5 t5
    k_steps
    (rename News _ _ _ _ => n9)
    refine ne_tups n9 (by decide +kernel) zo (units_ok2 hu) ?_
    k_steps
    (rename Fr _ _ _ _ => f9); (rename News _ _ _ _ => n9)
    exact ⟨.inl rfl, g4, _, _, _, _, rfl, f9, news_drop2 n9, off5, rfl, rfl, B', X', P', D', T4⟩
  case fin =>
    intro g₁ h5 tk5 m₁ led hJ F5 N5
    obtain ⟨hm1, rfl, b5, x5, p5, d5, t5⟩ := hJ
    obtain ⟨m2, rfl⟩ := m_is1 hm1
    show wpAny _ _ _ _ _ _
    k_steps
    (rename KtsTurn _ _ _ => kT); (rename Fr _ _ _ _ => f9); (rename News _ _ _ _ => n9); (rename Below _ _ _ _ => kB); (rename KtsDicts _ _ => kD)
    exact hret _ [_, _] _ _ _ kT f9 n9 kB (by assumption) (by assumption) kD ⟨_, rfl⟩
end
section
open PySem PySem.W PyProof.Rows PySem.Calls PySem.Spec
theorem words_E1 : True := by
  w_top off
  k_with_none
  k_with "mine room" => ((simp only [depth_under_make, depth_under_kw, depth_in1, depth_deeper, depth_caller, recursionLimit] at *; (try dsimp only [ktrTop] at *); omega))
  k_with "mine enter" => ((refine wpAny_call ?_; first
  | (refine' code_def ?y2k1 ?y2k2 ?y2k3 ?y2k4 ?y2k5 ?y2kA ?y2kF ?y2kK ?y2k6 ?y2k7 ?y2k8 ?y2k9 ?y2kB ?_ ?y2c2 ?y2c3 ?y2c4 ?y2c5; (case y2kA => exact rfl); (case y2kF => exact rfl); (case y2kK => first | exact rfl | assumption); (case y2k1 => k_asm); (case y2k2 => k_asm); (case y2k3 => k_asm); (case y2k4 => k_asm); (case y2k5 => k_asm); (case y2k6 => k_is); (case y2k7 => k_is); (case y2k8 => walk_at "mine room"); (case y2k9 => first | exact BindsTo.of_eq rfl | exact binds_K (by k_in) rfl (by k_is) rfl rfl rfl); (case y2c5 => decide); (case y2kB => exact locs rfl); (case y2c2 => exact rfl); (case y2c3 => exact rfl); (case y2c4 => exact rfl); k_whole; intro w9g' w9L' w9h' w9FG' w9F' w9N' w9B' w9X' w9T'; (try dsimp only); (try k_lift w9B'); (try k_fold))
  | (refine' code_defC ?y2k1 ?y2k2 ?y2k3 ?y2k4 ?y2k5 ?y2kA ?y2kF ?y2kK ?y2k6 ?y2k7 ?y2k8 ?y2k9 ?y2kB ?y2kD ?_ ?y2c2 ?y2c3 ?y2c4; (case y2kA => exact rfl); (case y2kF => exact rfl); (case y2kK => first | exact rfl | assumption); (case y2k1 => k_asm); (case y2k2 => k_asm); (case y2k3 => k_asm); (case y2k4 => k_asm); (case y2k5 => k_asm); (case y2k6 => k_is); (case y2k7 => k_is); (case y2k8 => walk_at "mine room"); (case y2k9 => first | exact BindsTo.of_eq rfl | exact binds_K (by k_in) rfl (by k_is) rfl rfl rfl); (case y2kB => exact rfl); (case y2kD => decide +kernel); (case y2c2 => exact rfl); (case y2c3 => exact rfl); (case y2c4 => exact rfl); k_whole; intro w9g' w9L' w9h' w9tk' w9cells' w9FG' w9F' w9N' w9Y' w9B' w9X' w9T' w9l1; (try k_lt w9l1); k_cells w9Y'; (try simp only [List.cons_append, List.nil_append] at w9N'); (try dsimp only); (try k_lift w9B'); (try k_fold))))
  k_with "call ref" => ((k_here; k_dflt (walk_at "mine enter")))
  k_with "execs cons" => ((k_here; (try k_gentoks); (try dsimp only); (with_reducible refine wpAny_execs_cons ?_); (try dsimp only); k_fold))
  k_with "mine bound" => (first | omega | exact Int.fmod_nonneg_of_pos _ (by decide) | exact Int.fmod_lt_of_pos _ (by decide))
  k_with "mine short" => (first | exact Nat.le_of_ble_eq_true rfl | ((try simp only [PySem.Str.length_append]); (try kopn_lits); omega))
  k_with "mine open" => ((fail_if_success (with_reducible show wpAny _ _ (subscriptTail _ (Expr.Constant _ _ _) _ _) _ _ _)))
  k_with "subscriptTail" => ((k_here; (with_reducible show wpAny _ _ (subscriptTail _ _ (Value.ref _) (Value.int _ _)) _ _ _); walk_at "mine open"; k_dflt (first
  | (refine item_pickS4 3 (by k_asm) (List.Mem.head _) (by walk_at "mine bound") (by walk_at "mine bound") (by walk_at "mine short") (by walk_at "mine short") (by walk_at "mine short") (by walk_at "mine short") ?_; intro _ _)
  | (refine item_pickS4 60 (by k_asm) (List.Mem.head _) (by walk_at "mine bound") (by walk_at "mine bound") (by walk_at "mine short") (by walk_at "mine short") (by walk_at "mine short") (by walk_at "mine short") ?_; intro _ _)
  | (refine item_pickS2 (by k_asm) (List.Mem.head _) (by walk_at "mine bound") (by walk_at "mine bound") (by walk_at "mine short") (by walk_at "mine short") ?_; intro _ _)
  | (refine item_pickI2 (by k_asm) (List.Mem.head _) (by walk_at "mine bound") (by walk_at "mine bound") ?_; intro _))))
  k_with "mine mem" => (first | exact List.Mem.head _ | (refine List.Mem.tail _ ?_; walk_at "mine mem"))
  k_with "pyIter ref" => (((with_reducible show wpAny _ _ (pyIter (Value.ref _)) (fun it s₂ => LoopAtV _ _ _ _ _ _ _ _ _ it s₂) _ _); with_unfolding_all refine iter_listUnr (by rfl) (by k_asm) (by k_asm) (by walk_at "mine mem") (by rfl) (by rfl) ?_; intro w9i' w9l1))
  k_with "UnrEnd" => ((refine unrEnd_of (by k_asm) (by k_asm) (by assumption) ⟨by walk_at "mine mem", ?_⟩))
  k_with "pyIter ref" => (((with_reducible show wpAny _ _ (pyIter (Value.ref _)) (fun it s₂ => TurnsAt _ _ _ _ _ _ _ _ _ it s₂) _ _); with_unfolding_all refine iter_listTurns (by rfl) (by k_asm) (by k_asm) (by walk_at "mine mem") (by rfl) (by rfl) ?_; intro w9i' w9l1))
  k_with "UnrEndW" => ((refine unrEndW_of (by k_asm) (by k_asm) (by assumption) ⟨⟨by walk_at "mine mem", trivial⟩, ?_⟩))
  k_with "mine sub" => ((intro w9p w9hp; first | exact w9hp | (simp only [List.mem_cons, List.mem_append] at w9hp ⊢; first | (simp only [w9hp, true_or, or_true]; done) | (rcases w9hp with w9hp | w9hp <;> simp only [w9hp, true_or, or_true] <;> done))))
  k_with "exec For Name Call cons nil" => ((k_here; (rename Fr _ _ _ _ => w9lF'); k_dflt ((with_unfolding_all refine' For_range1 w9lF' ?y75k0 ?y75k1 ?y75k2 ?_); (case y75k0 => exact rfl); (case y75k1 => exact rfl); (case y75k2 => exact rfl); k_whole)))
  k_with "call builtin:len" => ((k_here; (with_reducible show wpAny _ _ (call (Value.builtin _) [Value.ref _]) _ _ _); k_dflt (refine len_list (Fr.lst (by k_asm) (by with_reducible assumption)) (by omega) ?_)))
  k_with "subscriptTail" => ((k_here; (with_reducible show wpAny _ _ (subscriptTail _ _ (Value.ref _) (Value.int (Nat.cast _) _)) _ _ _); k_dflt (refine item_list (Fr.lst (by k_asm) (by with_reducible assumption)) (by omega) (by omega) (by with_reducible assumption) ?_)))
  trivial
/-- a contract that reads a list of the base -/
noncomputable abbrev ClaimB (w : World) (mean : ExcName → Option Value) (mg mb : Str → Option Value) (d : Nat) (f : Addr) (vs : List Value) (sc : Addr) (svs : List Value) (news : List (Addr × Obj)) (R : Value → List (Addr × Obj) → Prop) : Prop :=
  ∀ (dp un : Nat) (gd : Option (List Code)) (cn : Str) (cs : Scope) (a : Addr) (ccd : Value) (cl : List (Str × Addr)) (outer : List Env) (A₀ : Around) (base h₀ : Heap) (L : Addr) (m : Str → Option Value) (s : Shared) (Q E : Value → Shared → Prop),
    Below A₀ base outer h₀ → Fr h₀ L s.heap m → (hd.heap_39 w.params).In h₀ → News h₀ L s.heap news → Top hd.view_39 lo mean mg mb h₀ → h₀.IsList sc svs.toArray → cs.kind = .function →
    dp + d ≤ 330 → un + 8 * d ≤ 500 →
    (∀ (v : Value) (tl : List (Addr × Obj)) (h' : Heap) (tk' : Nat), Fr h₀ L h' m → News h₀ L h' (tl ++ news) → R v tl → Q v { s with heap := h', toks := tk' }) →
      wpAny (model PySem.Challenge.rw_xj0001_01.row.prog w) (ktrTop dp un gd cn cs L a ccd cl outer) (call (.ref f) vs) Q E s
theorem range_ok64 {n : Nat} (h : n ≤ 64) : Builtin.Range.small 0 (n : Int) 1 = true ∧ Builtin.Range.rangeSize 0 (n : Int) 1 = ((n : Nat) : Int) := by
  have : ∀ n : Fin 65, Builtin.Range.small 0 ((n.val : Nat) : Int) 1 = true ∧ Builtin.Range.rangeSize 0 ((n.val : Nat) : Int) 1 = ((n.val : Nat) : Int) := by decide +kernel
  exact this ⟨n, by omega⟩
theorem list_two {vs : List Value} {ns : List Int} (h : IntsAre vs ns) (h2 : ns.length = 2) : ∃ a t b u, vs = [.int a t, .int b u] := by
  cases h with
  | nil => cases h2
  | cons a t h =>
    cases h with
    | nil => cases h2
    | cons b u h =>
      cases h with
      | nil => exact ⟨_, _, _, _, rfl⟩
      | cons c v h => exact absurd h2 (by simp)
inductive JC (Dc sc : Addr) (news : List (Addr × Obj)) (_ : Nat) (m : Str → Option Value) (led : List (Addr × Obj)) : Prop
  | intro (vs ns n) (f1 : m (Str.ofString "cells") = some (.ref Dc)) (f2 : m (Str.ofString "script") = some (.ref sc)) (f3 : led = (Dc, W.listOf (List.toArray vs) n) :: news) (f4 : IntsAre vs ns) (f5 : ns.length = 2)
local macro_rules | `(tactic| k_all) => `(tactic| with_reducible assumption)
set_option maxHeartbeats 8000000 in
theorem cells_c {w : World} {mean : ExcName → Option Value} {mg mb : Str → Option Value} {news : List (Addr × Obj)} (sc : Addr) (svs : List Value) (sns : List Int) (hsI : IntsAre svs sns) (hsl : sns.length ≤ 63) :
    ClaimB w mean mg mb 4 115 [.ref sc] sc svs news (fun v tl => ∃ a t u n c0 c1, v = .ref a ∧ (a, W.listOf #[.int c0 t, .int c1 u] n) ∈ tl) := by
  delta ClaimB; k_fill
  intro dp un gd cn cs a ccd cl outer A₀ base h₀ L m s Q E B F X N T hsL hk hdp hu hret
  have hsz : svs.toArray.size = sns.length := by rw [List.size_toArray]; exact hsI.length
  walk_at "mine enter"
  (rename Fr h₀ L _ m => fg)
  have hsG := fg.lst hsL
  k_steps
  (rename ∀ p ∈ news, _ < _ => hLt)
  have offD : ∀ p ∈ news, p.1 ≠ _ := fun p hp => Nat.ne_of_lt (hLt p hp)
  (rename Fr _ _ _ _ => lF'); (rename News _ _ _ _ => lN'); (rename IsRange _ _ _ _ _ _ _ _ => r9)
  refine' ⟨_, 0, ((sns.length : Nat) : Int), _, _, _, sns.length, _, _, JC _ sc news, rfl, rfl, r9, (range_ok64 (by omega)).1, (range_ok64 (by omega)).2, lF', lN', ⟨_, [_, _], _, rfl, rfl, rfl, .cons _ _ (.cons _ _ .nil), rfl⟩, ?step, ?fin⟩
  case fin =>
    intro h9 tk9 m9 news9 hJ F9 N9
    obtain ⟨vs, ns, n, hm1, hm2, rfl, hI, h2⟩ := hJ
    obtain ⟨m2, rfl⟩ := m_is2 hm1 hm2
    obtain ⟨x0, u0, x1, u1, rfl⟩ := list_two hI h2
    show wpAny _ _ _ _ _ _
    k_steps
    (rename Fr _ _ _ _ => f9); (rename News _ _ _ _ => n9)
    exact hret _ [_] _ _ f9 n9 ⟨_, _, _, _, _, _, rfl, List.mem_cons_self⟩
  case step =>
    intro p m₁ led I oI t' h' tk' E' hp hJ off' F' N'
    obtain ⟨vs, ns, n, hm1, hm2, rfl, hI, h2⟩ := hJ
    obtain ⟨m2, rfl⟩ := m_is2 hm1 hm2
    simp only [Int.zero_add] at F'
    have n1 := neG off' List.mem_cons_self
    k_steps
    (rename Fr _ _ _ _ => f9); (rename News _ _ _ _ => n9); (rename IntsAre _ _ => hI9); (rename List.length _ = List.length _ => hl9)
    refine ⟨.inl rfl, _, _, _, _, rfl, f9, n9, fun q hq => ?_, _, _, _, rfl, rfl, rfl, hI9, hl9.trans h2⟩
    rcases List.mem_cons.mp hq with rfl | hq
    · exact n1
    · exact off' q (List.mem_cons_of_mem _ hq)
end
section
noncomputable def ordL : List (List Nat) := [[0, 1, 3, 7, 15], [0, 1, 3, 11, 15], [0, 1, 5, 7, 15], [0, 1, 5, 13, 15], [0, 1, 9, 11, 15], [0, 1, 9, 13, 15], [0, 2, 3, 7, 15], [0, 2, 3, 11, 15], [0, 2, 6, 7, 15], [0, 2, 6, 14, 15], [0, 2, 10, 11, 15], [0, 2, 10, 14, 15], [0, 4, 5, 7, 15], [0, 4, 5, 13, 15], [0, 4, 6, 7, 15], [0, 4, 6, 14, 15], [0, 4, 12, 13, 15], [0, 4, 12, 14, 15], [0, 8, 9, 11, 15], [0, 8, 9, 13, 15], [0, 8, 10, 11, 15], [0, 8, 10, 14, 15], [0, 8, 12, 13, 15], [0, 8, 12, 14, 15]]
noncomputable def ringL : List (List Nat) := [[1, 2, 4, 8], [9, 2, 4], [1, 10, 4], [1, 2, 12], [5, 2, 8], [13, 2], [13, 2], [5, 10], [1, 6, 8], [9, 6], [1, 14], [1, 14], [3, 4, 8], [11, 4], [11, 4], [3, 12], [7, 8], [15], [15], [15], [7, 8], [15], [15], [15]]
noncomputable def mx (f : Nat → Nat) : List Nat → Nat
  | [] => 0
  | m :: r => mx f r + (f m - mx f r)
noncomputable def fst' (f : Nat → Nat) (x : Nat) : List Nat → Nat
  | [] => 0
  | m :: r => cond (Nat.beq (f m) x) 0 (fst' f x r + 1)
noncomputable def cnt' (f : Nat → Nat) : List Nat → Nat
  | [] => 0
  | m :: r => (1 - (1 - f m)) + cnt' f r
noncomputable def sm (f : Nat → Nat) : List Nat → Nat
  | [] => 0
  | m :: r => f m + sm f r
noncomputable def gen (g : List Nat → Nat) : List (List Nat) → Nat
  | [] => 0
  | l :: r => 32 ^ g l + gen g r
/-- heights in natural numbers, the steps given four more -/
noncomputable def fA (a b c d m : Nat) : Nat := (m % 2 * a + m / 2 % 2 * b + m / 4 % 2 * c + m / 8 % 2 * d) - 4 * (m % 2 + m / 2 % 2 + m / 4 % 2 + m / 8 % 2)
noncomputable def okG (ord ring : List (List Nat)) (f : Nat → Nat) : Bool := Nat.beq (gen (mx f) ord) (gen (sm f) ring) && Nat.beq (gen (fun r => fst' f (mx f r) r) ord) (gen (cnt' f) ord)
noncomputable def okF (f : Nat → Nat) : Bool := okG ordL ringL f
theorem gen_perm {g : List Nat → Nat} {l1 l2 : List (List Nat)} (h : l1.Perm l2) : gen g l1 = gen g l2 := by
  induction h with
  | nil => rfl
  | cons x _ ih => simp only [gen, ih]
  | swap x y l => simp only [gen]; omega
  | trans _ _ a b => exact a.trans b
theorem gen_map {g : List Nat → Nat} {t : List Nat → List Nat} : ∀ l : List (List Nat), gen g (l.map t) = gen (fun r => g (t r)) l
  | [] => rfl
  | x :: r => by simp only [List.map_cons, gen, gen_map r]
theorem gen_congr {g g' : List Nat → Nat} (h : ∀ r, g r = g' r) : ∀ l : List (List Nat), gen g l = gen g' l
  | [] => rfl
  | x :: r => by simp only [gen, h, gen_congr h r]
theorem mx_map (f t : Nat → Nat) : ∀ r : List Nat, mx f (r.map t) = mx (fun m => f (t m)) r
  | [] => rfl
  | m :: r => by simp only [List.map_cons, mx, mx_map f t r]
theorem fst_map (f t : Nat → Nat) (x : Nat) : ∀ r : List Nat, fst' f x (r.map t) = fst' (fun m => f (t m)) x r
  | [] => rfl
  | m :: r => by simp only [List.map_cons, fst', fst_map f t x r]
theorem cnt_map (f t : Nat → Nat) : ∀ r : List Nat, cnt' f (r.map t) = cnt' (fun m => f (t m)) r
  | [] => rfl
  | m :: r => by simp only [List.map_cons, cnt', cnt_map f t r]
theorem sm_map (f t : Nat → Nat) : ∀ r : List Nat, sm f (r.map t) = sm (fun m => f (t m)) r
  | [] => rfl
  | m :: r => by simp only [List.map_cons, sm, sm_map f t r]
noncomputable def ins (a : Nat) : List Nat → List Nat
  | [] => [a]
  | b :: r => cond (Nat.ble a b) (a :: b :: r) (b :: ins a r)
noncomputable def isort : List Nat → List Nat
  | [] => []
  | a :: r => ins a (isort r)
theorem sm_ins (f : Nat → Nat) (a : Nat) : ∀ r : List Nat, sm f (ins a r) = f a + sm f r
  | [] => rfl
  | b :: r => by
    unfold ins
    cases Nat.ble a b
    · simp only [cond_false, sm, sm_ins f a r]; omega
    · simp only [cond_true, sm]
theorem sm_isort (f : Nat → Nat) : ∀ r : List Nat, sm f (isort r) = sm f r
  | [] => rfl
  | a :: r => by simp only [isort, sm_ins, sm, sm_isort f r]
theorem ok_swapG {ord ring : List (List Nat)} {f t : Nat → Nat} (p1 : (ord.map (·.map t)).Perm ord) (p2 : ((ring.map (·.map t)).map isort).Perm (ring.map isort)) : okG ord ring (fun m => f (t m)) = okG ord ring f := by
  have e1 : gen (mx fun m => f (t m)) ord = gen (mx f) ord := ((gen_congr (fun r => (mx_map f t r).symm) ord).trans (gen_map (g := mx f) (t := (·.map t)) ord).symm).trans (gen_perm p1)
  have e2 : gen (fun r => fst' (fun m => f (t m)) (mx (fun m => f (t m)) r) r) ord = gen (fun r => fst' f (mx f r) r) ord :=
    ((gen_congr (fun r => by rw [mx_map, fst_map]) ord).trans (gen_map (g := fun r => fst' f (mx f r) r) (t := (·.map t)) ord).symm).trans (gen_perm p1)
  have e3 : gen (cnt' fun m => f (t m)) ord = gen (cnt' f) ord := ((gen_congr (fun r => (cnt_map f t r).symm) ord).trans (gen_map (g := cnt' f) (t := (·.map t)) ord).symm).trans (gen_perm p1)
  have e4 : gen (sm fun m => f (t m)) ring = gen (sm f) ring := by
    have a : gen (sm f) ring = gen (sm f) (ring.map isort) := by rw [gen_map]; exact gen_congr (fun r => (sm_isort f r).symm) _
    rw [a, ← gen_perm p2, gen_map, gen_map]
    exact gen_congr (fun r => by rw [sm_isort, sm_map]) _
  unfold okG
  rw [e1, e2, e3, e4]
theorem ok_swap {f t : Nat → Nat} (h1 : (ordL.map (·.map t)).isPerm ordL = true) (h2 : ((ringL.map (·.map t)).map isort).isPerm (ringL.map isort) = true) : okF (fun m => f (t m)) = okF f :=
  ok_swapG (List.isPerm_iff.mp h1) (List.isPerm_iff.mp h2)
theorem bits_fin : ∀ p q r s : Fin 2, (p.val + q.val * 2 + r.val * 4 + s.val * 8) % 2 = p.val ∧ (p.val + q.val * 2 + r.val * 4 + s.val * 8) / 2 % 2 = q.val ∧ (p.val + q.val * 2 + r.val * 4 + s.val * 8) / 4 % 2 = r.val ∧ (p.val + q.val * 2 + r.val * 4 + s.val * 8) / 8 % 2 = s.val := by decide +kernel
theorem bits {p q r s : Nat} (hp : p < 2) (hq : q < 2) (hr : r < 2) (hs : s < 2) : (p + q * 2 + r * 4 + s * 8) % 2 = p ∧ (p + q * 2 + r * 4 + s * 8) / 2 % 2 = q ∧ (p + q * 2 + r * 4 + s * 8) / 4 % 2 = r ∧ (p + q * 2 + r * 4 + s * 8) / 8 % 2 = s :=
  bits_fin ⟨p, hp⟩ ⟨q, hq⟩ ⟨r, hr⟩ ⟨s, hs⟩
theorem m2 (n : Nat) : n % 2 < 2 := Nat.mod_lt _ (by decide)
noncomputable def sw1 (m : Nat) : Nat := m / 2 % 2 + m % 2 * 2 + m / 4 % 2 * 4 + m / 8 % 2 * 8
noncomputable def sw2 (m : Nat) : Nat := m % 2 + m / 4 % 2 * 2 + m / 2 % 2 * 4 + m / 8 % 2 * 8
noncomputable def sw3 (m : Nat) : Nat := m % 2 + m / 2 % 2 * 2 + m / 8 % 2 * 4 + m / 4 % 2 * 8
theorem f_sw1 (a b c d : Nat) : fA a b c d = fun m => fA b a c d (sw1 m) := by
  funext m
  obtain ⟨e1, e2, e3, e4⟩ : sw1 m % 2 = _ ∧ sw1 m / 2 % 2 = _ ∧ sw1 m / 4 % 2 = _ ∧ sw1 m / 8 % 2 = _ := bits (m2 _) (m2 _) (m2 _) (m2 _)
  unfold fA
  rw [e1, e2, e3, e4]
  congr 1 <;> omega
theorem f_sw2 (a b c d : Nat) : fA a b c d = fun m => fA a c b d (sw2 m) := by
  funext m
  obtain ⟨e1, e2, e3, e4⟩ : sw2 m % 2 = _ ∧ sw2 m / 2 % 2 = _ ∧ sw2 m / 4 % 2 = _ ∧ sw2 m / 8 % 2 = _ := bits (m2 _) (m2 _) (m2 _) (m2 _)
  unfold fA
  rw [e1, e2, e3, e4]
  congr 1 <;> omega
theorem f_sw3 (a b c d : Nat) : fA a b c d = fun m => fA a b d c (sw3 m) := by
  funext m
  obtain ⟨e1, e2, e3, e4⟩ : sw3 m % 2 = _ ∧ sw3 m / 2 % 2 = _ ∧ sw3 m / 4 % 2 = _ ∧ sw3 m / 8 % 2 = _ := bits (m2 _) (m2 _) (m2 _) (m2 _)
  unfold fA
  rw [e1, e2, e3, e4]
  congr 1 <;> omega
theorem ok_1 (a b c d : Nat) : okF (fA a b c d) = okF (fA b a c d) := by rw [f_sw1]; exact ok_swap (by decide +kernel) (by decide +kernel)
theorem ok_2 (a b c d : Nat) : okF (fA a b c d) = okF (fA a c b d) := by rw [f_sw2]; exact ok_swap (by decide +kernel) (by decide +kernel)
theorem ok_3 (a b c d : Nat) : okF (fA a b c d) = okF (fA a b d c) := by rw [f_sw3]; exact ok_swap (by decide +kernel) (by decide +kernel)
theorem sorted_ok : ((List.range 9).all fun a => (List.range (a + 1)).all fun b => (List.range (b + 1)).all fun c => (List.range (c + 1)).all fun d => okF (fA a b c d)) = true := by decide +kernel
theorem okA {a b c d : Nat} (ha : a ≤ 8) (hb : b ≤ 8) (hc : c ≤ 8) (hd : d ≤ 8) : okF (fA a b c d) = true := by
  have h0 : ∀ a b c d, a ≤ 8 → b ≤ a → c ≤ b → d ≤ c → okF (fA a b c d) = true := fun a b c d h1 h2 h3 h4 => by
    have := sorted_ok
    simp only [List.all_eq_true, List.mem_range] at this
    exact this a (by omega) b (by omega) c (by omega) d (by omega)
  have hA : ∀ a b c d, a ≤ 8 → b ≤ 8 → c ≤ b → d ≤ c → okF (fA a b c d) = true := fun a b c d h1 h2 h3 h4 => by
    by_cases q1 : b ≤ a
    · exact h0 a b c d h1 q1 h3 h4
    rw [ok_1]
    by_cases q2 : c ≤ a
    · exact h0 b a c d h2 (by omega) q2 h4
    rw [ok_2]
    by_cases q3 : d ≤ a
    · exact h0 b c a d h2 h3 (by omega) q3
    rw [ok_3]
    exact h0 b c d a h2 h3 h4 (by omega)
  have hB : ∀ a b c d, a ≤ 8 → b ≤ 8 → c ≤ 8 → d ≤ c → okF (fA a b c d) = true := fun a b c d h1 h2 h3 h4 => by
    by_cases q1 : c ≤ b
    · exact hA a b c d h1 h2 q1 h4
    rw [ok_2]
    by_cases q2 : d ≤ b
    · exact hA a c b d h1 h3 (by omega) q2
    rw [ok_3]
    exact hA a c d b h1 h3 h4 (by omega)
  by_cases q : d ≤ c
  · exact hB a b c d ha hb hc q
  · rw [ok_3]; exact hB a b d c ha hb hd (by omega)
end
section
open PySem PySem.W PyProof.Rows PySem.Calls PySem.Spec
noncomputable def pieceOk (b : Array UInt8) (s : Int) : Bool := match subR b with
  | some r => decide (b.size ≤ 64) && decide ((cntB r #[40] : Int) - (cntB r #[41] : Int) = s)
  | none => false
theorem piece_all : ∀ k : Fin 9, ∀ w : Fin 4, pieceOk (pieceL ((k.val : Int) - 4) (w.val : Int)).toArray ((k.val : Int) - 4) = true := by decide +kernel
theorem piece_ok {s w : Int} (h1 : -4 ≤ s) (h2 : s ≤ 4) (h3 : 0 ≤ w) (h4 : w < 4) : ∃ r, (pieceL s w).toArray.size ≤ 64 ∧ subR (pieceL s w).toArray = some r ∧ (cntB r #[40] : Int) - (cntB r #[41] : Int) = s := by
  have h := piece_all ⟨(s + 4).toNat, by omega⟩ ⟨w.toNat, by omega⟩
  simp only at h
  rw [show (((s + 4).toNat : Nat) : Int) - 4 = s by omega, show ((w.toNat : Nat) : Int) = w by omega] at h
  unfold pieceOk at h
  split at h
  · rename_i r hr
    simp only [Bool.and_eq_true, decide_eq_true_eq] at h
    exact ⟨r, h.1, hr, h.2⟩
  · cases h
end
section
open PySem PySem.W PyProof.Rows PySem.Calls PySem.Spec
theorem news_pick {h₀ h : Heap} {L : Addr} {p : Addr × Obj} {tl rest : List (Addr × Obj)} (N : News h₀ L h (tl ++ rest)) (hm : p ∈ tl) : News h₀ L h (p :: rest) := fun q hq => by
  rcases List.mem_cons.mp hq with rfl | hq
  · exact N _ (List.mem_append.mpr (.inl hm))
  · exact N q (List.mem_append.mpr (.inr hq))
theorem ne_kind {h₀ h : Heap} {L a c : Addr} {its : Array Value} {n : Nat} {oc : Obj} {v : Option Value} {led : List (Addr × Obj)} (N : News h₀ L h led) (ha : (a, W.listOf its n) ∈ led) (hc : (c, oc) ∈ led) (hd : oc.data = .cell v) : @Ne Nat a c := fun e => by
  have e1 := (N _ ha).1
  have e2 := (N _ hc).1
  simp only at e1 e2
  rw [show c = a from Eq.symm e] at e2
  rw [e1] at e2
  have := Option.some.inj e2
  rw [← this] at hd
  cases hd
theorem ne6 {h₀ h : Heap} {L a c1 c2 c3 c4 c5 c6 : Addr} {its : Array Value} {n : Nat} {o1 o2 o3 o4 o5 o6 : Obj} {v1 v2 v3 v4 v5 v6 : Option Value} {led : List (Addr × Obj)} (N : News h₀ L h ((a, W.listOf its n) :: (c6, o6) :: (c5, o5) :: (c4, o4) :: (c3, o3) :: (c2, o2) :: (c1, o1) :: led))
    (d1 : o1.data = .cell v1) (d2 : o2.data = .cell v2) (d3 : o3.data = .cell v3) (d4 : o4.data = .cell v4) (d5 : o5.data = .cell v5) (d6 : o6.data = .cell v6) :
    @Ne Nat a c1 ∧ @Ne Nat a c2 ∧ @Ne Nat a c3 ∧ @Ne Nat a c4 ∧ @Ne Nat a c5 ∧ @Ne Nat a c6 :=
  ⟨ne_kind (its := its) (n := n) N List.mem_cons_self (by simp) d1, ne_kind (its := its) (n := n) N List.mem_cons_self (by simp) d2, ne_kind (its := its) (n := n) N List.mem_cons_self (by simp) d3, ne_kind (its := its) (n := n) N List.mem_cons_self (by simp) d4, ne_kind (its := its) (n := n) N List.mem_cons_self (by simp) d5, ne_kind (its := its) (n := n) N List.mem_cons_self (by simp) d6⟩
/-- the invariant of the steps' comprehension -/
noncomputable def IvS (led0 : List (Addr × Obj)) (k : Nat) (ys : List Value) (led : List (Addr × Obj)) : Prop := led = led0 ∧ ∃ ns, IntsAre ys ns ∧ (∀ x ∈ ns, -4 ≤ x ∧ x ≤ 4) ∧ ns.length = k
theorem IvS.start {led0 : List (Addr × Obj)} : IvS led0 0 [] led0 := ⟨rfl, [], .nil, (fun _ h => nomatch h), rfl⟩
theorem IvS.next {led0 led : List (Addr × Obj)} {k : Nat} {ys : List Value} {y : Int} {t : Tok} (h : IvS led0 k ys led) (b : -4 ≤ y ∧ y ≤ 4) : IvS led0 (k + 1) (ys ++ [.int y t]) led := by
  obtain ⟨h1, ns, h2, h3, h4⟩ := h
  refine ⟨h1, ns ++ [y], h2.append (.cons _ _ .nil), fun x hx => ?_, by rw [List.length_append, h4]; rfl⟩
  rcases List.mem_append.mp hx with hx | hx
  · exact h3 x hx
  · rw [List.mem_singleton.mp hx]; exact b
theorem IvS.four {led0 led : List (Addr × Obj)} {ys : List Value} (h : IvS led0 4 ys led) : ∃ s0 u0 s1 u1 s2 u2 s3 u3, ys = [.int s0 u0, .int s1 u1, .int s2 u2, .int s3 u3] ∧ led = led0 ∧ ∀ x ∈ [s0, s1, s2, s3], -4 ≤ x ∧ x ≤ 4 := by
  obtain ⟨h1, ns, h2, h3, h4⟩ := h
  cases h2 with
  | nil => cases h4
  | cons a t h =>
  cases h with
  | nil => cases h4
  | cons b u h =>
  cases h with
  | nil => cases h4
  | cons c v h =>
  cases h with
  | nil => cases h4
  | cons d w h =>
  cases h with
  | nil => exact ⟨a, t, b, u, c, v, d, w, rfl, h1, h3⟩
  | cons e x h => exact absurd h4 (by simp)
theorem step_bound (x b : Int) : -4 ≤ (x.fdiv b).fmod 9 - 4 ∧ (x.fdiv b).fmod 9 - 4 ≤ 4 := by
  have h0 := Int.fmod_nonneg_of_pos (x.fdiv b) (b := 9) (by decide)
  have h1 := Int.fmod_lt_of_pos (x.fdiv b) (b := 9) (by decide)
  omega
/-- the invariant of the loop over the four steps -/
inductive JL (zl pl D : Addr) (LED : List (Addr × Obj)) (s0 s1 s2 s3 : Int) (i : Nat) (m : Str → Option Value) (led : List (Addr × Obj)) : Prop
  | intro (zs nz ps np) (f1 : m (Str.ofString "steps") = some (.ref D)) (f2 : m (Str.ofString "pieces") = some (.ref pl)) (f3 : led = (zl, W.listOf zs nz) :: (pl, W.listOf ps np) :: LED) (f4 : zs.size = i) (f5 : ps.size = i) (f6 : (∀ j, j < i → ∃ t, zs[j]? = some (.int (4200 * stp s0 s1 s2 s3 j) t))) (f7 : ∀ j, j < i → ∃ w t, 0 ≤ w ∧ w < 4 ∧ ps[j]? = some (.bytes (pieceL (stp s0 s1 s2 s3 j) w).toArray t))
theorem push_at {its : Array Value} {P : Nat → Value → Prop} {v : Value} {i : Nat} (hs : its.size = i) (h : ∀ j, j < i → ∃ u, its[j]? = some u ∧ P j u) (hv : P i v) : (its.push v).size = i + 1 ∧ ∀ j, j < i + 1 → ∃ u, (its.push v)[j]? = some u ∧ P j u := by
  refine ⟨by rw [Array.size_push, hs], fun j hj => ?_⟩
  by_cases e : j = i
  · subst e; exact ⟨v, by rw [← hs]; exact Array.getElem?_push_size, hv⟩
  · obtain ⟨u, hu, p⟩ := h j (by omega)
    exact ⟨u, by rw [Array.getElem?_push_lt (by omega)]; rw [Array.getElem?_eq_getElem (by omega)] at hu; exact hu, p⟩
theorem steps_at {s0 s1 s2 s3 : Int} {u0 u1 u2 u3 : Tok} {i : Nat} (h : i < 4) : ∃ t, (List.toArray [Value.int s0 u0, .int s1 u1, .int s2 u2, .int s3 u3])[((i : Nat) : Int).toNat]? = some (.int (stp s0 s1 s2 s3 i) t) := by
  have : i = 0 ∨ i = 1 ∨ i = 2 ∨ i = 3 := by omega
  rcases this with rfl | rfl | rfl | rfl <;> exact ⟨_, rfl⟩
theorem stp_bound {s0 s1 s2 s3 : Int} (h : ∀ x ∈ [s0, s1, s2, s3], -4 ≤ x ∧ x ≤ 4) (i : Nat) : -4 ≤ stp s0 s1 s2 s3 i ∧ stp s0 s1 s2 s3 i ≤ 4 := by
  unfold stp
  split
  · exact h _ (by simp)
  split
  · exact h _ (by simp)
  split
  · exact h _ (by simp)
  · exact h _ (by simp)
theorem kind_b (x : Int) : 0 ≤ x.fmod 256 ∧ x.fmod 256 < 256 ∧ 0 ≤ (x.fmod 256).fdiv 64 ∧ (x.fmod 256).fdiv 64 < 4 ∧ 0 ≤ ((x.fmod 256).fdiv 16).fmod 4 ∧ ((x.fmod 256).fdiv 16).fmod 4 < 4 := by
  have h0 := Int.fmod_nonneg_of_pos x (b := 256) (by decide)
  have h1 := Int.fmod_lt_of_pos x (b := 256) (by decide)
  refine ⟨h0, h1, ?_, ?_, Int.fmod_nonneg_of_pos _ (by decide), Int.fmod_lt_of_pos _ (by decide)⟩
  · rw [Int.fdiv_eq_ediv_of_nonneg _ (by decide)]; omega
  · rw [Int.fdiv_eq_ediv_of_nonneg _ (by decide)]; omega
theorem news_drop {h₀ h : Heap} {L : Addr} {tl rest : List (Addr × Obj)} (N : News h₀ L h (tl ++ rest)) : News h₀ L h rest := fun p hp => N p (List.mem_append.mpr (.inr hp))
theorem JL.next {zl pl D : Addr} {LED : List (Addr × Obj)} {s0 s1 s2 s3 : Int} {i nz np : Nat} {m : Str → Option Value} {zs ps : Array Value} {x y w : Int} {t u : Tok} (e1 : m (Str.ofString "steps") = some (.ref D)) (e2 : m (Str.ofString "pieces") = some (.ref pl)) (hz1 : zs.size = i) (hp1 : ps.size = i)
    (hz2 : ∀ j, j < i → ∃ t, zs[j]? = some (.int (4200 * stp s0 s1 s2 s3 j) t)) (hp2 : ∀ j, j < i → ∃ w t, 0 ≤ w ∧ w < 4 ∧ ps[j]? = some (.bytes (pieceL (stp s0 s1 s2 s3 j) w).toArray t)) (hx : x = 4200 * stp s0 s1 s2 s3 i) (hy : y = stp s0 s1 s2 s3 i) (w0 : 0 ≤ w) (w4 : w < 4) :
    JL zl pl D LED s0 s1 s2 s3 (i + 1) m ((zl, W.listOf (zs.push (.int x t)) (nz + 1)) :: (pl, W.listOf (ps.push (.bytes (pieceL y w).toArray u)) (np + 1)) :: LED) := by
  subst hx hy
  obtain ⟨a1, a2⟩ := push_at (P := fun j v => ∃ t, v = .int (4200 * stp s0 s1 s2 s3 j) t) (v := .int (4200 * stp s0 s1 s2 s3 i) t) hz1 (fun j hj => by obtain ⟨t, h⟩ := hz2 j hj; exact ⟨_, h, t, rfl⟩) ⟨t, rfl⟩
  obtain ⟨b1, b2⟩ := push_at (P := fun j v => ∃ w t, 0 ≤ w ∧ w < 4 ∧ v = .bytes (pieceL (stp s0 s1 s2 s3 j) w).toArray t) (v := .bytes (pieceL (stp s0 s1 s2 s3 i) w).toArray u) hp1 (fun j hj => by obtain ⟨w, t, h0, h4, h⟩ := hp2 j hj; exact ⟨_, h, w, t, h0, h4, rfl⟩) ⟨w, u, w0, w4, rfl⟩
  exact ⟨_, _, _, _, e1, e2, rfl, a1, b1, fun j hj => by obtain ⟨v, h, t, rfl⟩ := a2 j hj; exact ⟨t, h⟩, fun j hj => by obtain ⟨v, h, w, t, h0, h4, rfl⟩ := b2 j hj; exact ⟨w, t, h0, h4, h⟩⟩
theorem pieces_ok {s0 s1 s2 s3 : Int} {ps : Array Value} (h : ∀ x ∈ [s0, s1, s2, s3], -4 ≤ x ∧ x ≤ 4) (hp : ∀ j, j < 4 → ∃ w t, 0 ≤ w ∧ w < 4 ∧ ps[j]? = some (.bytes (pieceL (stp s0 s1 s2 s3 j) w).toArray t)) :
    ∀ k, k < 4 → ∃ b r t, ps[((k : Nat) : Int).toNat]? = some (.bytes b t) ∧ b.size ≤ 64 ∧ subR b = some r ∧ (cntB r #[40] : Int) - (cntB r #[41] : Int) = stp s0 s1 s2 s3 k := fun k hk => by
  obtain ⟨w, t, w0, w4, e⟩ := hp k hk
  obtain ⟨b1, b2⟩ := stp_bound h k
  obtain ⟨r, r1, r2, r3⟩ := piece_ok b1 b2 w0 w4
  exact ⟨_, r, t, e, r1, r2, r3⟩
theorem as_list {its : Array Value} {ns : List Int} (h : IntsAre its.toList ns) : ∃ ds : List Value, its = ds.toArray ∧ IntsAre ds ns := ⟨its.toList, Array.toArray_toList.symm, h⟩
theorem news_ne {h₀ h : Heap} {L a : Addr} {its : Array Value} {n : Nat} {x1 x2 x3 x4 : Addr × Obj} {l : List (Addr × Obj)} (N : News h₀ L h ((a, W.listOf its n) :: x1 :: x2 :: x3 :: x4 :: l)) : News h₀ L h ((a, W.listOf its n) :: l) := fun p hp => N p (by
  simp only [List.mem_cons] at hp ⊢
  rcases hp with hp | hp <;> simp [hp])
end
section
open PySem PySem.W PyProof.Rows PySem.Calls PySem.Spec
/-- a comprehension's invariant: the values of f -/
noncomputable def IvF (led0 : List (Addr × Obj)) (f : Nat → Int) (k : Nat) (ys : List Value) (led : List (Addr × Obj)) : Prop := led = led0 ∧ IntsAre ys ((List.range k).map f)
theorem IvF.start {led0 : List (Addr × Obj)} {f : Nat → Int} : IvF led0 f 0 [] led0 := ⟨rfl, .nil⟩
theorem IvF.next {led0 led : List (Addr × Obj)} {f : Nat → Int} {k : Nat} {ys : List Value} {y : Int} {t : Tok} (h : IvF led0 f k ys led) (e : y = f k) : IvF led0 f (k + 1) (ys ++ [.int y t]) led := by
  subst e
  refine ⟨h.1, ?_⟩
  rw [List.range_succ, List.map_append]
  exact h.2.append (.cons _ _ .nil)
theorem ints_at {ys : List Value} {f : Nat → Int} {n : Nat} (h : IntsAre ys ((List.range n).map f)) {k : Nat} (hk : k < n) : ∃ t, ys.toArray[((k : Nat) : Int).toNat]? = some (.int (f k) t) := by
  obtain ⟨t, ht⟩ := intsAre_get h k (by rw [List.length_map, List.length_range]; exact hk)
  refine ⟨t, ?_⟩
  rw [List.getElem?_toArray, Int.toNat_natCast, ht, List.getD_eq_getElem?_getD, List.getElem?_map, List.getElem?_range hk]
  rfl
theorem sums_b {s0 s1 s2 s3 : Int} (h : ∀ x ∈ [s0, s1, s2, s3], -4 ≤ x ∧ x ≤ 4) (m : Nat) : -16 ≤ sumsAt s0 s1 s2 s3 m ∧ sumsAt s0 s1 s2 s3 m ≤ 16 := by
  have h0 := h s0 (by simp)
  have h1 := h s1 (by simp)
  have h2 := h s2 (by simp)
  have h3 := h s3 (by simp)
  unfold sumsAt
  constructor <;> split <;> split <;> split <;> split <;> omega
theorem way_b (x : Int) : 0 ≤ x.fmod 4 ∧ x.fmod 4 < 4 := ⟨Int.fmod_nonneg_of_pos x (by decide), Int.fmod_lt_of_pos x (by decide)⟩
/-- the heights -/
noncomputable def upAt (s0 s1 s2 s3 : Int) (m : Nat) : Int := max (sumsAt s0 s1 s2 s3 m) 0
theorem figs_next : ∀ m : Fin 16, ∀ k : Fin 4, (bitM m.val k.val → figs (m.val % 2 ^ k.val) k.val (m.val % 2 ^ (k.val + 1))) ∧ (¬ bitM m.val k.val → m.val % 2 ^ k.val = m.val % 2 ^ (k.val + 1)) := by decide +kernel
theorem psum_next {s0 s1 s2 s3 : Int} : ∀ m, m < 16 → ∀ k, k < 4 → (bitM m k → sumsAt s0 s1 s2 s3 (m % 2 ^ k) + stp s0 s1 s2 s3 k = sumsAt s0 s1 s2 s3 (m % 2 ^ (k + 1))) ∧ (¬ bitM m k → sumsAt s0 s1 s2 s3 (m % 2 ^ k) = sumsAt s0 s1 s2 s3 (m % 2 ^ (k + 1))) := fun m hm k hk =>
  ⟨fun h => sums_figs hk ((figs_next ⟨m, hm⟩ ⟨k, hk⟩).1 h), fun h => congrArg _ ((figs_next ⟨m, hm⟩ ⟨k, hk⟩).2 h)⟩
/-- the invariant of the zones' comprehension -/
noncomputable def IvZ (led0 : List (Addr × Obj)) (s0 s1 s2 s3 : Int) (m : Nat) (k : Nat) (ys : List Value) (led : List (Addr × Obj)) : Prop := led = led0 ∧ ∃ ns, IntsAre ys ns ∧ ns.sum = 4200 * sumsAt s0 s1 s2 s3 (m % 2 ^ k) ∧ ns.length ≤ k
theorem IvZ.start {led0 : List (Addr × Obj)} {s0 s1 s2 s3 : Int} {m : Nat} : IvZ led0 s0 s1 s2 s3 m 0 [] led0 := ⟨rfl, [], .nil, by simp [sumsAt, Nat.mod_one], Nat.le_refl _⟩
theorem IvZ.yes {led0 led : List (Addr × Obj)} {s0 s1 s2 s3 : Int} {m k : Nat} {ys : List Value} {y : Int} {t : Tok} (h : IvZ led0 s0 s1 s2 s3 m k ys led) (hm : m < 16) (hk : k < 4) (b : bitM m k) (e : y = 4200 * stp s0 s1 s2 s3 k) : IvZ led0 s0 s1 s2 s3 m (k + 1) (ys ++ [.int y t]) led := by
  obtain ⟨h1, ns, h2, h3, h4⟩ := h
  refine ⟨h1, ns ++ [y], h2.append (.cons _ _ .nil), ?_, by rw [List.length_append]; exact Nat.add_le_add_right h4 1⟩
  rw [List.sum_append, h3, ← (psum_next m hm k hk).1 b, e]
  simp only [List.sum_cons, List.sum_nil]
  omega
theorem IvZ.no {led0 led : List (Addr × Obj)} {s0 s1 s2 s3 : Int} {m k : Nat} {ys : List Value} (h : IvZ led0 s0 s1 s2 s3 m k ys led) (hm : m < 16) (hk : k < 4) (b : ¬ bitM m k) : IvZ led0 s0 s1 s2 s3 m (k + 1) ys led := by
  obtain ⟨h1, ns, h2, h3, h4⟩ := h
  exact ⟨h1, ns, h2, by rw [h3, (psum_next m hm k hk).2 b], Nat.le_succ_of_le h4⟩
theorem IvZ.done {led0 led : List (Addr × Obj)} {s0 s1 s2 s3 : Int} {m : Nat} {ys : List Value} (h : IvZ led0 s0 s1 s2 s3 m 4 ys led) (hm : m < 16) : led = led0 ∧ ∃ ns, IntsAre ys ns ∧ ns.sum = 4200 * sumsAt s0 s1 s2 s3 m ∧ ns.length ≤ 4 := by
  obtain ⟨h1, ns, h2, h3, h4⟩ := h
  refine ⟨h1, ns, h2, ?_, h4⟩
  rw [h3, Nat.mod_eq_of_lt (by omega)]
theorem clock_is {x S : Int} (h : x = 4200 * S) : x.fdiv 4200 = S := by
  subst h
  rw [Int.fdiv_eq_ediv_of_nonneg _ (by decide)]
  omega
/-- the invariant of the loop over the masks -/
inductive JK (cl : Addr) (KEEP : List (Addr × Obj)) (s0 s1 s2 s3 : Int) (i : Nat) (_ : Str → Option Value) (led : List (Addr × Obj)) : Prop
  | intro (its n) (f1 : led = (cl, W.listOf its n) :: KEEP) (f2 : IntsAre its.toList ((List.range i).map (upAt s0 s1 s2 s3)))
theorem JK.next {cl : Addr} {KEEP : List (Addr × Obj)} {s0 s1 s2 s3 : Int} {i n : Nat} {m : Str → Option Value} {its : Array Value} {y : Int} {t : Tok} (h : IntsAre its.toList ((List.range i).map (upAt s0 s1 s2 s3))) (e : y = upAt s0 s1 s2 s3 i) :
    JK cl KEEP s0 s1 s2 s3 (i + 1) m ((cl, W.listOf (its.push (.int y t)) n) :: KEEP) := by
  subst e
  refine ⟨_, n, rfl, ?_⟩
  rw [Array.toList_push, List.range_succ, List.map_append]
  exact h.append (.cons _ _ .nil)
theorem news_S8 {h₀ h : Heap} {L : Addr} {x1 x2 x3 x4 x5 x6 x7 x8 x9 x10 x11 x12 x13 x14 : Addr × Obj} (N : News h₀ L h [x1, x2, x3, x4, x5, x6, x7, x8, x9, x10, x11, x12, x13, x14]) : News h₀ L h [x11, x1, x2, x5, x8, x9, x10, x13, x14] := news_sub N (by
  repeat' first | exact List.forall_mem_nil _ | refine List.forall_mem_cons.mpr (And.intro ?_ ?_) | exact List.mem_cons_self | apply List.mem_cons_of_mem)
/-- lists lie off a cell -/
theorem off_cell {h₀ h : Heap} {L c a1 a2 a3 a4 c1 c2 c3 c4 : Addr} {oc o1 o2 o3 o4 : Obj} {v : Option Value} {i1 i2 i3 i4 : Array Value} {n1 n2 n3 n4 : Nat} (N : News h₀ L h [(c, oc), (a1, W.listOf i1 n1), (a2, W.listOf i2 n2), (a3, W.listOf i3 n3), (a4, W.listOf i4 n4), (c1, o1), (c2, o2), (c3, o3), (c4, o4)]) (hd : oc.data = .cell v)
    (e1 : @Ne Nat c1 c) (e2 : @Ne Nat c2 c) (e3 : @Ne Nat c3 c) (e4 : @Ne Nat c4 c) : ∀ p ∈ ([(a1, W.listOf i1 n1), (a2, W.listOf i2 n2), (a3, W.listOf i3 n3), (a4, W.listOf i4 n4), (c1, o1), (c2, o2), (c3, o3), (c4, o4)] : List (Addr × Obj)), p.1 ≠ c := fun p hp => by
  simp only [List.mem_cons, List.not_mem_nil, or_false] at hp
  rcases hp with rfl | rfl | rfl | rfl | rfl | rfl | rfl | rfl
  · exact ne_kind (its := i1) (n := n1) N (by simp) List.mem_cons_self hd
  · exact ne_kind (its := i2) (n := n2) N (by simp) List.mem_cons_self hd
  · exact ne_kind (its := i3) (n := n3) N (by simp) List.mem_cons_self hd
  · exact ne_kind (its := i4) (n := n4) N (by simp) List.mem_cons_self hd
  · exact e1
  · exact e2
  · exact e3
  · exact e4
theorem allLt_sub {d : Nat} {l l' : List (Addr × Obj)} (h : AllLt d l) : ∀ (_ : ∀ p ∈ l', p ∈ l), AllLt d l' := by
  induction l' with
  | nil => intro _; exact trivial
  | cons q r ih =>
    intro s
    exact ⟨allLt_mem h q (s q List.mem_cons_self), ih fun p hp => s p (List.mem_cons_of_mem _ hp)⟩
section
variable {prog : Program} {w : World} {A : Around} {E : Value → Shared → Prop} {s : Shared} {b : Int} {t u : Tok} {Q : Value → Shared → Prop}
theorem pow_sub {i : Nat} (hb : b.natAbs < 2 ^ 64) (hi : i < 16) (h : ∀ t' j, Q (.int (b ^ (15 - i)) t') { s with toks := j }) : wpAny (model prog w) A (binaryOp .Pow (.int b t) (.int (15 - (i : Int)) u)) Q E s := by
  rw [show 15 - (i : Int) = ((15 - i : Nat) : Int) by omega]
  exact pow_nat hb (by omega) h
end
theorem allLt_S8 {d a2 a3 a4 a5 a6 a7 a8 a9 a10 a11 a12 a13 a14 : Nat} (h : a2 < d ∧ a3 < d ∧ a4 < d ∧ a5 < d ∧ a6 < d ∧ a7 < d ∧ a8 < d ∧ a9 < d ∧ a10 < d ∧ a11 < d ∧ a12 < d ∧ a13 < d ∧ a14 < d) : a2 < d ∧ a5 < d ∧ a8 < d ∧ a9 < d ∧ a10 < d ∧ a13 < d ∧ a14 < d ∧ True :=
  ⟨h.1, h.2.2.2.1, h.2.2.2.2.2.2.1, h.2.2.2.2.2.2.2.1, h.2.2.2.2.2.2.2.2.1, h.2.2.2.2.2.2.2.2.2.2.2.1, h.2.2.2.2.2.2.2.2.2.2.2.2, trivial⟩
end
section
open PySem PySem.W PyProof.Rows PySem.Calls PySem.Spec
theorem eq_int_none (a : Int) (t : Tok) : MeetsSeq.EqGives (.int a t) .none false := fun prog w A E s Q h => SeqAt.EqAt.int_none (A := A) (s := s) a t prog w E Q h
theorem ints_kf : ∀ {vs : List Value} {ns : List Int}, IntsAre vs ns → kf_ints vs = true
  | _, _, .nil => rfl
  | _, _, .cons _ _ h => by unfold kf_ints; exact ints_kf h
theorem ints_none : ∀ {vs : List Value} {ns : List Int}, IntsAre vs ns → ∀ y ∈ vs, MeetsSeq.EqGives y .none false
  | _, _, .nil, _, hy => nomatch hy
  | _, _, .cons a t h, y, hy => by
    rcases List.mem_cons.mp hy with rfl | hy
    · exact eq_int_none a t
    · exact ints_none h y hy
/-- the place of the first x -/
noncomputable def idx (x : Int) : List Int → Nat
  | [] => 0
  | y :: r => if y = x then 0 else idx x r + 1
theorem kf_idx {x : Int} : ∀ {vs : List Value} {ns : List Int}, IntsAre vs ns → x ∈ ns → kf_at x vs = some (idx x ns)
  | _, _, .nil, h => nomatch h
  | _, _, .cons a t h, hx => by
    unfold kf_at idx
    by_cases e : a = x
    · rw [if_pos e, show isInt x (.int a t) = true from by rw [e]; exact beq_self_eq_true x]; rfl
    · rename_i vs1 ns1
      have q : x ∈ ns1 := by
        rcases List.mem_cons.mp hx with q | q
        · exact absurd q.symm e
        · exact q
      rw [if_neg e, show isInt x (.int a t) = false from beq_false_of_ne e, kf_idx h q]
      rfl
section
variable {prog : Program} {w : World} {A : Around} {E : Value → Shared → Prop} {s : Shared} {h₀ : Heap} {L D : Addr} {m : Str → Option Value} {news : List (Addr × Obj)} {its : Array Value} {n : Nat} {ns : List Int} {Q : Value → Shared → Prop}
theorem in_none (N : News h₀ L s.heap news) (hm : (D, W.listOf its n) ∈ news) (hi : IntsAre its.toList ns) (h : Q (.bool false) s) : wpAny (model prog w) A (compareOp .In .none (.ref D)) Q E s :=
  SeqInW.in_listW (fun _ => false) (fun y hy => ints_none hi y (by simpa using hy)) (PySem.IsL.isList (n := n) (N _ hm).1) (by rw [← Array.any_toList, show its.toList.any (fun _ => false) = false from by simp]; exact h)
theorem max_led (hh : A.handled = none) (F : Fr h₀ L s.heap m) (N : News h₀ L s.heap news) (hm : (D, W.listOf its n) ∈ news) (hi : IntsAre its.toList ns) (hne : 0 < ns.length)
    (h : ∀ h' M (t : Tok) tk, Fr h₀ L h' m → News h₀ L h' news → M ∈ ns → (∀ a, a ∈ ns → a ≤ M) → Q (.int M t) { s with heap := h', toks := tk }) : wpAny (model prog w) A (call (.builtin "max") [.ref D]) Q E s := by
  have hl := News.isList N hm
  rw [← Array.toArray_toList (xs := its)] at hl
  exact kso_max F N hl hi hne hh h
theorem sorted_led (F : Fr h₀ L s.heap m) (N : News h₀ L s.heap news) (hm : (D, W.listOf its n) ∈ news) (hi : IntsAre its.toList ns) (h64 : ns.length < 64)
    (h : ∀ D vs' ns' c h', Fr h₀ L h' m → News h₀ L h' ((D, PySem.W.listOf (List.toArray vs') c) :: news) → (∀ q ∈ news, q.1 < D) → IntsAre vs' ns' → ns'.Perm ns → ns'.Pairwise (· ≤ ·) → Q (.ref D) { s with heap := h' }) : wpAny (model prog w) A (call (.builtin "sorted") [.ref D]) Q E s := by
  have hl := News.isList N hm
  rw [← Array.toArray_toList (xs := its)] at hl
  exact kso_sorted F N hl hi h64 fun D vs' ns' c h' F' N' l i _ p o _ => h D vs' ns' c h' F' N' l i p o
theorem index_led {x : Int} {t : Tok} (N : News h₀ L s.heap news) (hm : (D, W.listOf its n) ∈ news) (hi : IntsAre its.toList ns) (hx : x ∈ ns) (hz : ns.length ≤ 64)
    (h : Q (.int (idx x ns : Int) s.toks) { s with toks := s.toks + 1 }) : wpAny (model prog w) A (call (.builtin "list.index") [.ref D, .int x t]) Q E s :=
  kf_index N hm (ints_kf hi) (kf_idx hi hx) rfl (by rw [intsAre_len hi]; exact Nat.le_trans hz (by decide)) h
theorem index_method {name : Str} {pl : Sem Bool} {Q : Value × List Value → Shared → Prop} (hn : name = Str.ofString "index") (N : News h₀ L s.heap news) (hm : (D, W.listOf its n) ∈ news) (h : Q (.builtin "list.index", [.ref D]) s) : wpAny (model prog w) A (getMethod (.ref D) name pl) Q E s := by
  subst hn; exact kf_method N hm PySem.F.slot_list_index PySem.F.type_list_index h
end
end
section
open PySem PySem.W PyProof.Rows PySem.Calls PySem.Spec
/-- the heights above nought -/
noncomputable def hAt (s0 s1 s2 s3 : Int) (m : Nat) : Nat := (sumsAt s0 s1 s2 s3 m).toNat
theorem up_is {s0 s1 s2 s3 : Int} : upAt s0 s1 s2 s3 = fun m => ((hAt s0 s1 s2 s3 m : Nat) : Int) := by
  funext m
  unfold upAt hAt
  omega
theorem ord_is : ordR 4 = ordL.map (·.map fun m => ((m : Nat) : Int)) := by decide +kernel
theorem ordL_ok : ∀ r ∈ ordL, r.length = 5 ∧ ∀ m ∈ r, m < 16 := by decide +kernel
theorem mx_ge {f : Nat → Nat} : ∀ {r : List Nat}, ∀ m ∈ r, f m ≤ mx f r
  | a :: r, m, h => by
    unfold mx
    rcases List.mem_cons.mp h with rfl | h
    · omega
    · have := mx_ge (f := f) m h
      omega
theorem mx_mem {f : Nat → Nat} : ∀ {r : List Nat}, r ≠ [] → ∃ m ∈ r, f m = mx f r
  | [a], _ => ⟨a, List.mem_cons_self, by simp [mx]⟩
  | a :: b :: r, _ => by
    obtain ⟨m, hm, e⟩ := mx_mem (f := f) (r := b :: r) (by simp)
    by_cases q : f a ≤ mx f (b :: r)
    · exact ⟨m, List.mem_cons_of_mem _ hm, by rw [e]; show _ = mx f (b :: r) + (f a - mx f (b :: r)); omega⟩
    · exact ⟨a, List.mem_cons_self, by show f a = mx f (b :: r) + (f a - mx f (b :: r)); omega⟩
theorem mx_is {f : Nat → Nat} {r : List Nat} {M : Int} (h : M ∈ r.map fun m => ((f m : Nat) : Int)) (g : ∀ a ∈ r.map fun m => ((f m : Nat) : Int), a ≤ M) : M = ((mx f r : Nat) : Int) := by
  obtain ⟨m, hm, rfl⟩ := List.mem_map.mp h
  obtain ⟨m2, hm2, e⟩ := mx_mem (f := f) (r := r) (by intro q; rw [q] at hm; cases hm)
  have h1 := g _ (List.mem_map.mpr ⟨m2, hm2, rfl⟩)
  have h2 := mx_ge (f := f) m hm
  omega
theorem idx_is {f : Nat → Nat} {x : Nat} : ∀ {r : List Nat}, idx ((x : Nat) : Int) (r.map fun m => ((f m : Nat) : Int)) = fst' f x r
  | [] => rfl
  | m :: r => by
    rw [List.map_cons, idx, fst', idx_is]
    by_cases e : f m = x
    · rw [if_pos (by omega), show Nat.beq (f m) x = true from by rw [e]; exact Nat.beq_refl x]; rfl
    · rw [if_neg (by omega), show Nat.beq (f m) x = false from by cases q : Nat.beq (f m) x with
                                                                  | false => rfl
                                                                  | true => exact absurd (Nat.eq_of_beq_eq_true q) e]; rfl
theorem cnt_snoc {f : Nat → Nat} {m : Nat} : ∀ {r : List Nat}, cnt' f (r ++ [m]) = cnt' f r + (1 - (1 - f m))
  | [] => by simp [cnt']
  | a :: r => by rw [List.cons_append, cnt', cnt', cnt_snoc]; omega
/-- the value at a place of a row -/
theorem row_at {its : Array Value} {r : List Nat} (h : IntsAre its.toList (r.map fun m => ((m : Nat) : Int))) {k : Nat} {v : Value} (hv : its[k]? = some v) : ∃ m t, v = .int ((m : Nat) : Int) t ∧ m ∈ r ∧ r.take (k + 1) = r.take k ++ [m] := by
  have hk : k < r.length := by
    have := (Array.getElem?_eq_some_iff.mp hv).1
    rw [← Array.length_toList, intsAre_len h, List.length_map] at this
    exact this
  obtain ⟨t, ht⟩ := intsAre_get h k (by rw [List.length_map]; exact hk)
  rw [Array.getElem?_toList, hv, List.getD_eq_getElem?_getD, List.getElem?_map, List.getElem?_eq_getElem hk] at ht
  exact ⟨r[k], t, Option.some.inj ht, List.getElem_mem hk, by rw [List.take_add_one, List.getElem?_eq_getElem hk]; rfl⟩
/-- the invariant of the rises -/
noncomputable def IvR (led0 : List (Addr × Obj)) (f : Nat → Nat) (r : List Nat) (k : Nat) (ys : List Value) (led : List (Addr × Obj)) : Prop := led = led0 ∧ IntsAre ys ((r.take k).map fun m => ((f m : Nat) : Int))
theorem IvR.start {led0 : List (Addr × Obj)} {f : Nat → Nat} {r : List Nat} : IvR led0 f r 0 [] led0 := ⟨rfl, .nil⟩
theorem IvR.next {led0 led : List (Addr × Obj)} {f : Nat → Nat} {r : List Nat} {k m : Nat} {ys : List Value} {y : Int} {t : Tok} (h : IvR led0 f r k ys led) (e : r.take (k + 1) = r.take k ++ [m]) (q : y = ((f m : Nat) : Int)) : IvR led0 f r (k + 1) (ys ++ [.int y t]) led := by
  subst q
  refine ⟨h.1, ?_⟩
  rw [e, List.map_append]
  exact h.2.append (.cons _ _ .nil)
/-- and of the counted masks -/
noncomputable def IvC (led0 : List (Addr × Obj)) (f : Nat → Nat) (r : List Nat) (k : Nat) (ys : List Value) (led : List (Addr × Obj)) : Prop := led = led0 ∧ ys.length = cnt' f (r.take k) ∧ ys.length ≤ k
theorem IvC.start {led0 : List (Addr × Obj)} {f : Nat → Nat} {r : List Nat} : IvC led0 f r 0 [] led0 := ⟨rfl, rfl, Nat.le_refl _⟩
theorem IvC.yes {led0 led : List (Addr × Obj)} {f : Nat → Nat} {r : List Nat} {k m : Nat} {ys : List Value} {y : Value} (h : IvC led0 f r k ys led) (e : r.take (k + 1) = r.take k ++ [m]) (q : (0 : Int) < ((f m : Nat) : Int)) : IvC led0 f r (k + 1) (ys ++ [y]) led :=
  ⟨h.1, by rw [e, cnt_snoc, List.length_append, h.2.1, List.length_singleton]; omega, by rw [List.length_append]; exact Nat.add_le_add_right h.2.2 1⟩
theorem IvC.no {led0 led : List (Addr × Obj)} {f : Nat → Nat} {r : List Nat} {k m : Nat} {ys : List Value} (h : IvC led0 f r k ys led) (e : r.take (k + 1) = r.take k ++ [m]) (q : ¬ (0 : Int) < ((f m : Nat) : Int)) : IvC led0 f r (k + 1) ys led :=
  ⟨h.1, by rw [e, cnt_snoc, h.2.1]; omega, Nat.le_succ_of_le h.2.2⟩
theorem off_new {h₀ h : Heap} {L a H : Addr} {its : Array Value} {n k : Nat} {l : List (Addr × Obj)} (N : News h₀ L h l) (ha : (a, W.listOf its n) ∈ l) (hH : (H, W.listOf #[] k) ∈ l) (hz : 0 < its.size) : a ≠ H := fun e => by
  have e1 := (N _ ha).1
  have e2 := (N _ hH).1
  simp only at e1 e2
  rw [e, e2] at e1
  have := Option.some.inj e1
  simp only [W.listOf, Obj.mk.injEq, Data.seq.injEq] at this
  rw [← this.2.2.1.1] at hz
  exact absurd hz (by simp)
/-- the rows, off the three new lists -/
theorem rows_off {h₀ h : Heap} {L a H P C : Addr} {its : Array Value} {n k1 k2 k3 : Nat} {tl news : List (Addr × Obj)} (N : News h₀ L h (tl ++ news)) (hH : (H, W.listOf #[] k1) ∈ news) (hP : (P, W.listOf #[] k2) ∈ news) (hC : (C, W.listOf #[] k3) ∈ news)
    (hm : (a, W.listOf its n) ∈ tl) (hR : RowsL tl its.toList (ordR 4)) : ∃ tl2, (∀ p ∈ tl2, p ∈ tl) ∧ (∀ p ∈ tl2, p.1 ≠ H ∧ p.1 ≠ P ∧ p.1 ≠ C) ∧ (a, W.listOf its n) ∈ tl2 ∧ RowsL tl2 its.toList (ordR 4) ∧ its.size = 24 := by
  have hsz : its.size = 24 := by
    rw [← Array.length_toList, hR.1]; decide +kernel
  have key : ∀ b is2 n2, (b, W.listOf is2 n2) ∈ tl → 0 < is2.size → (b ≠ H ∧ b ≠ P ∧ b ≠ C) := fun b is2 n2 hb hz =>
    ⟨off_new N (List.mem_append.mpr (.inl hb)) (List.mem_append.mpr (.inr hH)) hz, off_new N (List.mem_append.mpr (.inl hb)) (List.mem_append.mpr (.inr hP)) hz, off_new N (List.mem_append.mpr (.inl hb)) (List.mem_append.mpr (.inr hC)) hz⟩
  have dec : ∀ p : Addr × Obj, Decidable (p.1 ≠ H ∧ p.1 ≠ P ∧ p.1 ≠ C) := fun p => by unfold Addr at *; exact inferInstance
  refine ⟨tl.filter fun p => @decide _ (dec p), fun p hp => (List.mem_filter.mp hp).1, fun p hp => by have := (List.mem_filter.mp hp).2; exact @of_decide_eq_true _ (dec p) this, ?_, ⟨hR.1, fun j row e => ?_⟩, hsz⟩
  · exact List.mem_filter.mpr ⟨hm, @decide_eq_true _ (dec _) (key _ _ _ hm (by omega))⟩
  · obtain ⟨b, is2, n2, h1, h2, h3⟩ := hR.2 j row e
    have hl := ord_len 4 (Nat.le_refl _) row (List.mem_of_getElem? e)
    exact ⟨b, is2, n2, h1, List.mem_filter.mpr ⟨h2, @decide_eq_true _ (dec _) (key _ _ _ h2 (by rw [← Array.length_toList, intsAre_len h3, hl]; decide))⟩, h3⟩
theorem m_is3L {m : Str → Option Value} {x z u : Str} {a b c : Value} (h : m x = some a) (h2 : m z = some b) (h3 : m u = some c) : ∃ m2 : Str → Option Value, m = fun y => if y = x then some a else if y = z then some b else if y = u then some c else m2 y := by
  obtain ⟨m2, e⟩ := m_is2 h2 h3
  refine ⟨m2, ?_⟩
  funext y
  split
  · rename y = x => q; rw [q, h]
  · rw [e]
/-- the invariant of the loop over the orders -/
inductive JH (C P H : Addr) (REST : List (Addr × Obj)) (f : Nat → Nat) (i : Nat) (m : Str → Option Value) (led : List (Addr × Obj)) : Prop
  | intro (cs kc ps kp hs kh) (f1 : m (Str.ofString "heights") = some (.ref H)) (f2 : m (Str.ofString "places") = some (.ref P)) (f3 : m (Str.ofString "counts") = some (.ref C)) (f4 : led = (C, W.listOf cs kc) :: (P, W.listOf ps kp) :: (H, W.listOf hs kh) :: REST) (f5 : IntsAre hs.toList ((ordL.take i).map fun r => ((mx f r : Nat) : Int))) (f6 : IntsAre ps.toList ((ordL.take i).map fun r => ((fst' f (mx f r) r : Nat) : Int))) (f7 : IntsAre cs.toList ((ordL.take i).map fun r => ((cnt' f r : Nat) : Int)))
theorem ints_snoc {its : Array Value} {g : List Nat → Nat} {i : Nat} {r : List Nat} {x : Int} {t : Tok} (h : IntsAre its.toList ((ordL.take i).map fun r => ((g r : Nat) : Int))) (hr : ordL[i]? = some r) (e : x = ((g r : Nat) : Int)) : IntsAre (its.push (.int x t)).toList ((ordL.take (i + 1)).map fun r => ((g r : Nat) : Int)) := by
  subst e
  rw [Array.toList_push, List.take_add_one, hr, List.map_append]
  exact h.append (.cons _ _ .nil)
/-- a row of the orders -/
theorem orow_at {tl : List (Addr × Obj)} {its : Array Value} (h : RowsL tl its.toList (ordR 4)) {i : Nat} {v : Value} (hv : its[i]? = some v) : ∃ b is2 n2 r, v = .ref b ∧ (b, W.listOf is2 n2) ∈ tl ∧ ordL[i]? = some r ∧ IntsAre is2.toList (r.map fun m => ((m : Nat) : Int)) ∧ r.length = 5 ∧ (∀ m ∈ r, m < 16) ∧ i < 24 := by
  have hi : i < (ordR 4).length := by rw [← h.1, Array.length_toList]; exact (Array.getElem?_eq_some_iff.mp hv).1
  obtain ⟨row, e⟩ : ∃ row, (ordR 4)[i]? = some row := ⟨_, List.getElem?_eq_getElem hi⟩
  obtain ⟨b, is2, n2, h1, h2, h3⟩ := h.2 i _ e
  rw [Array.getElem?_toList, hv] at h1
  rw [ord_is, List.getElem?_map] at e
  have hi2 : i < ordL.length := by rw [ord_is, List.length_map] at hi; exact hi
  rw [List.getElem?_eq_getElem hi2] at e
  have e2 := Option.some.inj e
  have hr := ordL_ok ordL[i] (List.getElem_mem hi2)
  simp only at e2
  exact ⟨b, is2, n2, ordL[i], Option.some.inj h1, h2, List.getElem?_eq_getElem hi2, by rw [e2]; exact h3, hr.1, hr.2, hi2⟩
theorem news_S10 {h₀ h : Heap} {L : Addr} {x1 x2 x3 x4 x5 x6 x7 x8 x9 x10 x11 x12 : Addr × Obj} {tl tl2 : List (Addr × Obj)} (N : News h₀ L h (tl ++ [x1, x2, x3, x4, x5, x6, x7, x8, x9, x10, x11, x12])) (s : ∀ p ∈ tl2, p ∈ tl) : News h₀ L h (x1 :: x2 :: x3 :: x5 :: x6 :: x9 :: x10 :: tl2) := news_sub N (by
  repeat' first | exact (fun p hp => List.mem_append_left _ (s p hp)) | refine List.forall_mem_cons.mpr (And.intro ?_ ?_) | refine List.mem_append_right _ ?_ | exact List.mem_cons_self | apply List.mem_cons_of_mem)
theorem off_S10 {h₀ h : Heap} {L : Addr} {oc op oh : Obj} {C P H a4 a5 a6 a7 a8 a9 a10 a11 a12 : Nat} {o5 o6 o9 o10 : Obj} {tl2 : List (Addr × Obj)} (_ : News h₀ L h ((C, oc) :: (P, op) :: (H, oh) :: (a5, o5) :: (a6, o6) :: (a9, o9) :: (a10, o10) :: tl2)) (lC : P < C ∧ H < C ∧ a4 < C ∧ a5 < C ∧ a6 < C ∧ a7 < C ∧ a8 < C ∧ a9 < C ∧ a10 < C ∧ a11 < C ∧ a12 < C) (lP : H < P ∧ a4 < P ∧ a5 < P ∧ a6 < P ∧ a7 < P ∧ a8 < P ∧ a9 < P ∧ a10 < P ∧ a11 < P ∧ a12 < P)
    (lH : a4 < H ∧ a5 < H ∧ a6 < H ∧ a7 < H ∧ a8 < H ∧ a9 < H ∧ a10 < H ∧ a11 < H ∧ a12 < H) (ht : ∀ p ∈ tl2, p.1 ≠ H ∧ p.1 ≠ P ∧ p.1 ≠ C) :
    (∀ p ∈ ((a5, o5) :: (a6, o6) :: (a9, o9) :: (a10, o10) :: tl2 : List (Addr × Obj)), p.1 ≠ H ∧ p.1 ≠ P ∧ p.1 ≠ C) ∧ P ≠ H ∧ C ≠ H ∧ C ≠ P := by
  refine ⟨fun p hp => ?_, by omega, by omega, by omega⟩
  rcases List.mem_cons.mp hp with rfl | hp
  · exact ⟨Nat.ne_of_lt lH.2.1, Nat.ne_of_lt lP.2.2.1, Nat.ne_of_lt lC.2.2.2.1⟩
  rcases List.mem_cons.mp hp with rfl | hp
  · exact ⟨Nat.ne_of_lt lH.2.2.1, Nat.ne_of_lt lP.2.2.2.1, Nat.ne_of_lt lC.2.2.2.2.1⟩
  rcases List.mem_cons.mp hp with rfl | hp
  · exact ⟨Nat.ne_of_lt lH.2.2.2.2.2.1, Nat.ne_of_lt lP.2.2.2.2.2.2.1, Nat.ne_of_lt lC.2.2.2.2.2.2.2.1⟩
  rcases List.mem_cons.mp hp with rfl | hp
  · exact ⟨Nat.ne_of_lt lH.2.2.2.2.2.2.1, Nat.ne_of_lt lP.2.2.2.2.2.2.2.1, Nat.ne_of_lt lC.2.2.2.2.2.2.2.2.1⟩
  · exact ht p hp
section
variable {prog : Program} {w : World} {A : Around} {E : Value → Shared → Prop} {s : Shared} {h₀ : Heap} {L D : Addr} {m : Str → Option Value} {its : Array Value} {n : Nat} {x : Value} {Q : Value → Shared → Prop}
/-- an append that keeps the list's place on the ledger -/
theorem app_mid (pre post : List (Addr × Obj)) (F : Fr h₀ L s.heap m) (N : News h₀ L s.heap (pre ++ (D, W.listOf its n) :: post)) (o1 : ∀ p ∈ pre, p.1 ≠ D) (o2 : ∀ p ∈ post, p.1 ≠ D) (hz : its.size ≤ 64)
    (h : ∀ h', Fr h₀ L h' m → News h₀ L h' (pre ++ (D, W.listOf (its.push x) (n + 1)) :: post) → Q .none { s with heap := h' }) : wpAny (model prog w) A (call (.builtin "list.append") [.ref D, x]) Q E s := by
  refine append_led (n := n) (pre ++ post) F N (List.mem_append.mpr (.inr List.mem_cons_self)) (fun p hp => ?_) (fun h' F' N' => h h' F' fun p hp => N' p ?_) (Nat.le_trans hz (by decide))
  · rcases List.mem_append.mp hp with hp | hp
    · exact ⟨List.mem_append.mpr (.inl hp), o1 p hp⟩
    · exact ⟨List.mem_append.mpr (.inr (List.mem_cons_of_mem _ hp)), o2 p hp⟩
  · rcases List.mem_append.mp hp with hp | hp
    · exact List.mem_cons_of_mem _ (List.mem_append.mpr (.inl hp))
    rcases List.mem_cons.mp hp with rfl | hp
    · exact List.mem_cons_self
    · exact List.mem_cons_of_mem _ (List.mem_append.mpr (.inr hp))
end
theorem sz_take {its : Array Value} {g : List Nat → Int} {i : Nat} (h : IntsAre its.toList ((ordL.take i).map g)) (hi : i < 24) : its.size ≤ 64 := by
  rw [← Array.length_toList, intsAre_len h, List.length_map, List.length_take]
  omega
theorem off3 {a b c D : Addr} {x y z : Obj} (h1 : a ≠ D) (h2 : b ≠ D) (h3 : c ≠ D) : ∀ p ∈ ([(a, x), (b, y), (c, z)] : List (Addr × Obj)), p.1 ≠ D := fun p hp => by
  simp only [List.mem_cons, List.not_mem_nil, or_false] at hp
  rcases hp with rfl | rfl | rfl
  · exact h1
  · exact h2
  · exact h3
theorem off4 {a b c d D : Addr} {x y z u : Obj} (h1 : a ≠ D) (h2 : b ≠ D) (h3 : c ≠ D) (h4 : d ≠ D) : ∀ p ∈ ([(a, x), (b, y), (c, z), (d, u)] : List (Addr × Obj)), p.1 ≠ D := fun p hp => by
  simp only [List.mem_cons, List.not_mem_nil, or_false] at hp
  rcases hp with rfl | rfl | rfl | rfl
  · exact h1
  · exact h2
  · exact h3
  · exact h4
theorem off_consL {q : Addr × Obj} {l : List (Addr × Obj)} {D : Addr} (h1 : q.1 ≠ D) (h : ∀ p ∈ l, p.1 ≠ D) : ∀ p ∈ q :: l, p.1 ≠ D := fun p hp => by
  rcases List.mem_cons.mp hp with rfl | hp
  · exact h1
  · exact h p hp
end
section
open PySem PySem.W PyProof.Rows PySem.Calls PySem.Spec
noncomputable def preds : List Nat → List Nat
  | [] => []
  | 0 :: r => preds r
  | (x + 1) :: r => x :: preds r
theorem preds_len : ∀ l : List Nat, (preds l).length ≤ l.length
  | [] => Nat.le_refl _
  | 0 :: r => Nat.le_succ_of_le (preds_len r)
  | (_ + 1) :: r => Nat.succ_le_succ (preds_len r)
theorem preds_count (a : Nat) : ∀ l : List Nat, (preds l).count a = l.count (a + 1)
  | [] => rfl
  | 0 :: r => by rw [preds, preds_count a r, List.count_cons]; simp
  | (x + 1) :: r => by rw [preds, List.count_cons, List.count_cons, preds_count a r]; simp
/-- the sum of the powers -/
noncomputable def pw : List Nat → Nat
  | [] => 0
  | x :: r => 32 ^ x + pw r
theorem pw_gen (g : List Nat → Nat) : ∀ l : List (List Nat), pw (l.map g) = gen g l
  | [] => rfl
  | x :: r => by rw [List.map_cons, pw, gen, pw_gen g r]
theorem gen_preds : ∀ l : List Nat, pw l = l.count 0 + 32 * pw (preds l)
  | [] => rfl
  | 0 :: r => by rw [pw, preds, gen_preds r, List.count_cons]; simp; omega
  | (x + 1) :: r => by
    rw [pw, preds, pw, gen_preds r, List.count_cons]
    rw [Nat.pow_succ]
    simp
    omega
theorem count_gen : ∀ (a : Nat) (l1 l2 : List Nat), l1.length < 32 → l2.length < 32 → pw l1 = pw l2 → l1.count a = l2.count a
  | 0, l1, l2, h1, h2, e => by
    have c1 := List.count_le_length (a := 0) (l := l1)
    have c2 := List.count_le_length (a := 0) (l := l2)
    rw [gen_preds l1, gen_preds l2] at e
    omega
  | a + 1, l1, l2, h1, h2, e => by
    have c0 := count_gen 0 l1 l2 h1 h2 e
    rw [gen_preds l1, gen_preds l2] at e
    rw [← preds_count, ← preds_count]
    exact count_gen a _ _ (Nat.lt_of_le_of_lt (preds_len _) h1) (Nat.lt_of_le_of_lt (preds_len _) h2) (by omega)
theorem perm_gen {l1 l2 : List (List Nat)} {g1 g2 : List Nat → Nat} (h1 : l1.length < 32) (h2 : l2.length < 32) (e : gen g1 l1 = gen g2 l2) : (l1.map fun r => ((g1 r : Nat) : Int)).Perm (l2.map fun r => ((g2 r : Nat) : Int)) := by
  have p : (l1.map g1).Perm (l2.map g2) := List.perm_iff_count.mpr fun a => count_gen a _ _ (by rw [List.length_map]; exact h1) (by rw [List.length_map]; exact h2) (by rw [pw_gen, pw_gen]; exact e)
  have q := p.map (fun x : Nat => (x : Int))
  rw [List.map_map, List.map_map] at q
  exact q
theorem fa1 {x : Nat} {s : Int} (h : -4 ≤ s) : ((x * (s + 4).toNat : Nat) : Int) = (x : Int) * s + 4 * (x : Int) := by
  rw [Int.natCast_mul, show (((s + 4).toNat : Nat) : Int) = s + 4 by omega, Int.mul_add]
  omega
theorem fa0 {n P : Nat} {x : Int} (h : (n : Int) = x + P) : n - P = x.toNat := by omega
theorem fa4 {p q r t P : Nat} {p' q' r' t' x y z u : Int} (h1 : (p : Int) = p' + 4 * x) (h2 : (q : Int) = q' + 4 * y) (h3 : (r : Int) = r' + 4 * z) (h4 : (t : Int) = t' + 4 * u) (hP : (P : Int) = 4 * (x + y + z + u)) : p + q + r + t - P = (p' + q' + r' + t').toNat :=
  fa0 (by simp only [Int.natCast_add, h1, h2, h3, h4, hP]; omega)
theorem fA_is {s0 s1 s2 s3 : Int} (h : ∀ x ∈ [s0, s1, s2, s3], -4 ≤ x ∧ x ≤ 4) : fA (s0 + 4).toNat (s1 + 4).toNat (s2 + 4).toNat (s3 + 4).toNat = hAt s0 s1 s2 s3 := by
  funext m
  rw [hAt, sums_lin, fA]
  exact fa4 (fa1 (h s0 (by simp)).1) (fa1 (h s1 (by simp)).1) (fa1 (h s2 (by simp)).1) (fa1 (h s3 (by simp)).1) (by simp only [Int.natCast_mul, Int.natCast_add]; rfl)
theorem law_plain {s0 s1 s2 s3 : Int} (h : ∀ x ∈ [s0, s1, s2, s3], -4 ≤ x ∧ x ≤ 4) :
    (ordL.map fun r => ((mx (hAt s0 s1 s2 s3) r : Nat) : Int)).Perm (ringL.map fun r => ((sm (hAt s0 s1 s2 s3) r : Nat) : Int)) ∧
    (ordL.map fun r => ((fst' (hAt s0 s1 s2 s3) (mx (hAt s0 s1 s2 s3) r) r : Nat) : Int)).Perm (ordL.map fun r => ((cnt' (hAt s0 s1 s2 s3) r : Nat) : Int)) := by
  have h0 := h s0 (by simp)
  have h1 := h s1 (by simp)
  have h2 := h s2 (by simp)
  have h3 := h s3 (by simp)
  have k := okA (a := (s0 + 4).toNat) (b := (s1 + 4).toNat) (c := (s2 + 4).toNat) (d := (s3 + 4).toNat) (by omega) (by omega) (by omega) (by omega)
  rw [fA_is h] at k
  unfold okF okG at k
  rw [Bool.and_eq_true] at k
  exact ⟨perm_gen (by decide) (by decide) (Nat.eq_of_beq_eq_true k.1), perm_gen (g1 := fun r => fst' (hAt s0 s1 s2 s3) (mx (hAt s0 s1 s2 s3) r) r) (by decide) (by decide) (Nat.eq_of_beq_eq_true k.2)⟩
theorem sorted_same {a b c d : List Int} (p1 : a.Perm c) (p2 : b.Perm d) (o1 : a.Pairwise (· ≤ ·)) (o2 : b.Pairwise (· ≤ ·)) (e : c.Perm d) : a = b :=
  List.Perm.eq_of_pairwise (le := (· ≤ ·)) (fun _ _ _ _ h1 h2 => Int.le_antisymm h1 h2) o1 o2 (p1.trans (e.trans p2.symm))
theorem ring_is : ringR 4 = ringR 4 := rfl
end
section
open PySem PySem.W PyProof.Rows PySem.Calls PySem.Spec
open LCg LCp
section
variable {prog : Program} {w : World} {A : Around} {E : Value → Shared → Prop} {s : Shared} {h₀ : Heap} {L : Addr} {m : Str → Option Value} {env : Env}
/-- a turn of a comprehension over pairs -/
noncomputable def TurnP (prog : Program) (w : World) (A : Around) (h₀ : Heap) (L : Addr) (m : Str → Option Value) (env : Env) (elt : PySem.Expr) (x x₂ : Str) (scope : Scope) (cl : List (Str × Addr)) (s : Shared) (S : List (Addr × Obj) → Prop) (P : Nat → Value → Prop) (n : Nat) (Inv : Nat → List Value → List (Addr × Obj) → Prop) : Prop :=
  ∀ i ys news v, i < n → Inv i ys news → P i v → ∃ (t : Addr) (ot : Obj) (v₁ v₂ : Value) (nt : Nat), v = .ref t ∧ (t, ot) ∈ news ∧ ot.cls = .type "tuple" ∧ ot.data = .seq #[v₁, v₂] nt ∧
      ∀ I oI C oC D m₂ h tk (E' : Value → Shared → Prop), NsObj oC m₂ → m₂ x = some v₁ → m₂ x₂ = some v₂ → Fr h₀ L h m → News h₀ L h ((I, oI) :: (C, oC) :: (D, lst ys) :: news) → Off3 I C D news → ((@Ne Nat I C) ∧ (@Ne Nat I D) ∧ (@Ne Nat C D)) →
      wpAny (model prog w) A (eval elt (compEnvC scope cl C env)) (CompEnd h₀ L m { s with heap := h, toks := tk } I oI C oC D (lst ys) S (fun y news' => Inv (i + 1) (ys ++ [y]) news')) E' { s with heap := h, toks := tk }
theorem restP_ind {elt : PySem.Expr} {x x₂ : Str} {scope : Scope} {cl : List (Str × Addr)} {S : List (Addr × Obj) → Prop} {P : Nat → Value → Prop} {Fin : List Value → List (Addr × Obj) → Prop} {n : Nat} (Inv : Nat → List Value → List (Addr × Obj) → Prop)
    (T : TurnP prog w A h₀ L m env elt x x₂ scope cl s S P n Inv) (fin : ∀ ys news, Inv n ys news → Fin ys news) : ∀ (k i : Nat) (ys : List Value) (news : List (Addr × Obj)), i + k = n → Inv i ys news → CompRestP prog w A h₀ L m env elt x x₂ scope cl s S P Fin k i ys news
  | 0, i, ys, news, e, h => CompRestP.zero (fin _ _ (by rw [← e]; exact h))
  | k + 1, i, ys, news, e, h => CompRestP.succ fun v hP => by
    obtain ⟨t, ot, v₁, v₂, nt, e1, hm, hc, hd, T'⟩ := T i ys news v (by omega) h hP
    exact ⟨t, ot, v₁, v₂, nt, e1, hm, hc, hd, fun I oI C oC D m₂ h' tk E' hC hx hx2 F N off ne =>
      wpAny_mono (T' I oI C oC D m₂ h' tk E' hC hx hx2 F N off ne) (fun y s'' hq => compEnd_mono hq fun n hn => restP_ind Inv T fin k (i + 1) _ n (by omega) hn) fun _ _ e => e⟩
theorem srcP_list {elt : PySem.Expr} {x x₂ : Str} {scope : Scope} {cl : List (Str × Addr)} {Fin : Shared → List Value → List (Addr × Obj) → Prop} {ax : Addr} {its : Array Value} {k : Nat} {news : List (Addr × Obj)} {s₁ : Shared} (Inv : Nat → List Value → List (Addr × Obj) → Prop)
    (hh : A.handled = none) (F : Fr h₀ L s₁.heap m) (N : News h₀ L s₁.heap news) (hm : (ax, ({ cls := .type "list", data := .seq its k } : Obj)) ∈ news) (hsz : its.size ≤ sizeLine) (h0 : Inv 0 [] news)
    (T : ∀ g, TurnP prog w A h₀ L m env elt x x₂ scope cl { s₁ with heap := g } (SrcAt h₀ ax its) (fun i v => its[i]? = some v) its.size Inv) (fin : ∀ g ys news, Inv its.size ys news → Fin { s₁ with heap := g } ys news) :
    SrcLP prog w A h₀ L m env elt x x₂ scope cl Fin (.ref ax) s₁ :=
  SrcLP.ledger hh F N hm hsz fun g => restP_ind Inv (T g) (fin g) its.size 0 [] news (Nat.zero_add _) h0
end
/-- the masks of the rings -/
theorem ring_ok : (ringR 4).map (·.map fun p => p.1.toNat) = ringL ∧ ∀ r ∈ ringR 4, r.length ≤ 4 ∧ ∀ p ∈ r, 0 ≤ p.1 ∧ p.1 < 16 := by decide +kernel
theorem sm_snoc {f : Nat → Nat} {m : Nat} : ∀ {r : List Nat}, sm f (r ++ [m]) = sm f r + f m
  | [] => by simp [sm]
  | a :: r => by rw [List.cons_append, sm, sm, sm_snoc]; omega
noncomputable abbrev msk (r : List (Int × Int)) : List Nat := r.map fun p => p.1.toNat
/-- a pair of a ring -/
theorem pair_at {tl : List (Addr × Obj)} {its : Array Value} {r : List (Int × Int)} (h : TupsL tl its.toList r) (ok : ∀ p ∈ r, 0 ≤ p.1 ∧ p.1 < 16) {i : Nat} {v : Value} (hv : its[i]? = some v) :
    ∃ b t u, ∃ k : Nat, ∃ z, v = .ref b ∧ (b, tup2 ((k : Nat) : Int) z t u) ∈ tl ∧ k < 16 ∧ msk (r.take (i + 1)) = msk (r.take i) ++ [k] := by
  have hi : i < its.toList.length := by rw [Array.length_toList]; exact (Array.getElem?_eq_some_iff.mp hv).1
  have hi2 : i < r.length := by rw [← h.len]; exact hi
  obtain ⟨b, t, u, e, hm, hr⟩ := h.at hi
  rw [Array.getElem?_toList, hv] at e
  have q := ok _ hr
  have e2 : (r.getD i (0, 0)).1 = (((r.getD i (0, 0)).1.toNat : Nat) : Int) := by omega
  rw [e2] at hm
  refine ⟨b, t, u, _, _, Option.some.inj e, hm, by omega, ?_⟩
  rw [msk, msk, List.take_add_one, List.getElem?_eq_getElem hi2, List.getD_eq_getElem?_getD, List.getElem?_eq_getElem hi2, List.map_append]
  rfl
/-- the inner sum -/
noncomputable def IvI (led0 : List (Addr × Obj)) (f : Nat → Nat) (r : List (Int × Int)) (i : Nat) (ys : List Value) (led : List (Addr × Obj)) : Prop := led = led0 ∧ ∃ ns, IntsAre ys ns ∧ ns.sum = ((sm f (msk (r.take i)) : Nat) : Int) ∧ ns.length = i
theorem IvI.start {led0 : List (Addr × Obj)} {f : Nat → Nat} {r : List (Int × Int)} : IvI led0 f r 0 [] led0 := ⟨rfl, [], .nil, rfl, rfl⟩
theorem IvI.next {led0 led : List (Addr × Obj)} {f : Nat → Nat} {r : List (Int × Int)} {i k : Nat} {ys : List Value} {y : Int} {t : Tok} (h : IvI led0 f r i ys led) (e : msk (r.take (i + 1)) = msk (r.take i) ++ [k]) (q : y = ((f k : Nat) : Int)) : IvI led0 f r (i + 1) (ys ++ [.int y t]) led := by
  obtain ⟨h1, ns, h2, h3, h4⟩ := h
  subst q
  refine ⟨h1, ns ++ [((f k : Nat) : Int)], h2.append (.cons _ _ .nil), ?_, by rw [List.length_append, h4]; rfl⟩
  rw [e, sm_snoc, List.sum_append, h3]
  simp
/-- the outer list -/
noncomputable def IvO (led0 : List (Addr × Obj)) (f : Nat → Nat) (i : Nat) (ys : List Value) (led : List (Addr × Obj)) : Prop := led = led0 ∧ IntsAre ys (((ringR 4).take i).map fun r => ((sm f (msk r) : Nat) : Int))
theorem IvO.start {led0 : List (Addr × Obj)} {f : Nat → Nat} : IvO led0 f 0 [] led0 := ⟨rfl, .nil⟩
theorem IvO.next {led0 led : List (Addr × Obj)} {f : Nat → Nat} {i : Nat} {r : List (Int × Int)} {ys : List Value} {y : Int} {t : Tok} (h : IvO led0 f i ys led) (hr : (ringR 4)[i]? = some r) (q : y = ((sm f (msk r) : Nat) : Int)) : IvO led0 f (i + 1) (ys ++ [.int y t]) led := by
  subst q
  refine ⟨h.1, ?_⟩
  rw [List.take_add_one, hr, List.map_append]
  exact h.2.append (.cons _ _ .nil)
theorem ring_map {f : Nat → Nat} : ((ringR 4).map fun r => ((sm f (msk r) : Nat) : Int)) = ringL.map fun r => ((sm f r : Nat) : Int) := by
  rw [← ring_ok.1, List.map_map]
  rfl
end
section
open PySem PySem.W PyProof.Rows PySem.Calls PySem.Spec
theorem lt16 {k : Nat} (h : k < 4) : k < 16 := Nat.lt_of_lt_of_le h (by decide)
theorem sub16 (k : Nat) : 15 - k < 16 := Nat.lt_of_le_of_lt (Nat.sub_le 15 k) (by decide)
theorem nat63 {k : Nat} (h : k < 16) : ((k : Nat) : Int) < 2 ^ 63 := by omega
theorem news_S12 {h₀ h : Heap} {L : Addr} {x1 x2 x3 x4 x5 x6 x7 : Addr × Obj} {tl tl2 : List (Addr × Obj)} (N : News h₀ L h (tl ++ (x1 :: x2 :: x3 :: x4 :: x5 :: x6 :: x7 :: tl2))) : News h₀ L h (x1 :: x2 :: x3 :: x4 :: x5 :: x6 :: x7 :: tl) := news_sub N (by
  repeat' first | exact (fun p hp => List.mem_append_left _ hp) | refine List.forall_mem_cons.mpr (And.intro ?_ ?_) | refine List.mem_append_right _ ?_ | exact List.mem_cons_self | apply List.mem_cons_of_mem)
section
variable {prog : Program} {w : World} {A : Around} {E : Value → Shared → Prop} {s : Shared} {h₀ : Heap} {L : Addr} {news : List (Addr × Obj)} {Q : Value → Shared → Prop}
theorem eq_same {a b : Addr} {vs us : List Value} {ns ms : List Int} {c c2 : Nat} (N : News h₀ L s.heap news) (hm : (a, PySem.W.listOf (List.toArray vs) c) ∈ news) (hi : IntsAre vs ns) (hm2 : (b, PySem.W.listOf (List.toArray us) c2) ∈ news) (hi2 : IntsAre us ms) (hu : A.units + 64 < cLine) (e : ns = ms)
    (h : Q (.bool true) s) : wpAny (model prog w) A (compareOp .Eq (.ref a) (.ref b)) Q E s :=
  eq_intsK (News.isList N hm) hi (News.isList N hm2) hi2 hu (by rw [decide_eq_true e]; exact h)
end
theorem rings_at {tl : List (Addr × Obj)} {its : Array Value} (h : NestL tl its.toList (ringR 4)) {i : Nat} {v : Value} (hv : its[i]? = some v) : ∃ b is2 n2 r, v = .ref b ∧ (b, W.listOf is2 n2) ∈ tl ∧ (ringR 4)[i]? = some r ∧ TupsL tl is2.toList r ∧ is2.size ≤ 4 ∧ (∀ p ∈ r, 0 ≤ p.1 ∧ p.1 < 16) := by
  obtain ⟨b, is2, n2, r, e, hr, hm, ht⟩ := h.at (i := i) (v := v) (by rw [Array.getElem?_toList]; exact hv)
  have ok := ring_ok.2 r (List.mem_of_getElem? hr)
  exact ⟨b, is2, n2, r, e, hm, hr, ht, by rw [← Array.length_toList, ht.len]; exact ok.1, ok.2⟩
theorem rings_size {tl : List (Addr × Obj)} {its : Array Value} (h : NestL tl its.toList (ringR 4)) : its.size = 24 := by
  rw [← Array.length_toList, h.len]; decide +kernel
theorem ring_all {f : Nat → Nat} : (((ringR 4).take 24).map fun r => ((sm f (msk r) : Nat) : Int)) = ringL.map fun r => ((sm f r : Nat) : Int) := by
  rw [← ring_map, show (ringR 4).take 24 = ringR 4 from List.take_of_length_le (by decide +kernel)]
theorem ord_all {g : List Nat → Int} : (ordL.take 24).map g = ordL.map g := rfl
theorem IvI.done {led0 led : List (Addr × Obj)} {f : Nat → Nat} {r : List (Int × Int)} {n : Nat} {ys : List Value} (h : IvI led0 f r n ys led) (e : n = r.length) : led = led0 ∧ ∃ ns, IntsAre ys ns ∧ ns.sum = ((sm f (msk r) : Nat) : Int) ∧ ns.length = n := by
  subst e
  obtain ⟨h1, ns, h2, h3, h4⟩ := h
  rw [List.take_length] at h3
  exact ⟨h1, ns, h2, h3, h4⟩
theorem IvO.done {led0 led : List (Addr × Obj)} {f : Nat → Nat} {n : Nat} {ys : List Value} (h : IvO led0 f n ys led) (e : n = 24) : led = led0 ∧ IntsAre ys (ringL.map fun r => ((sm f r : Nat) : Int)) := by
  subst e
  refine ⟨h.1, ?_⟩
  have := h.2
  rw [ring_all] at this
  exact this
end
section
open PySem PySem.W PyProof.Rows PySem.Calls PySem.Spec
theorem words_L1 : True := by
  w_top off
  k_with_none
  k_with "mine room" => ((simp only [depth_under_make, depth_under_kw, depth_in1, depth_deeper, depth_caller, recursionLimit] at *; (try dsimp only [ktrTop] at *); omega))
  k_with "mine enter" => ((refine wpAny_call ?_; first
  | (refine' code_def ?y2k1 ?y2k2 ?y2k3 ?y2k4 ?y2k5 ?y2kA ?y2kF ?y2kK ?y2k6 ?y2k7 ?y2k8 ?y2k9 ?y2kB ?_ ?y2c2 ?y2c3 ?y2c4 ?y2c5; (case y2kA => exact rfl); (case y2kF => exact rfl); (case y2kK => first | exact rfl | assumption); (case y2k1 => k_asm); (case y2k2 => k_asm); (case y2k3 => k_asm); (case y2k4 => k_asm); (case y2k5 => k_asm); (case y2k6 => k_is); (case y2k7 => k_is); (case y2k8 => walk_at "mine room"); (case y2k9 => first | exact BindsTo.of_eq rfl | exact binds_K (by k_in) rfl (by k_is) rfl rfl rfl); (case y2c5 => decide); (case y2kB => exact locs rfl); (case y2c2 => exact rfl); (case y2c3 => exact rfl); (case y2c4 => exact rfl); k_whole; intro w9g' w9L' w9h' w9FG' w9F' w9N' w9B' w9X' w9T'; (try dsimp only); (try k_lift w9B'); (try k_fold))
  | (refine' code_defC ?y2k1 ?y2k2 ?y2k3 ?y2k4 ?y2k5 ?y2kA ?y2kF ?y2kK ?y2k6 ?y2k7 ?y2k8 ?y2k9 ?y2kB ?y2kD ?_ ?y2c2 ?y2c3 ?y2c4; (case y2kA => exact rfl); (case y2kF => exact rfl); (case y2kK => first | exact rfl | assumption); (case y2k1 => k_asm); (case y2k2 => k_asm); (case y2k3 => k_asm); (case y2k4 => k_asm); (case y2k5 => k_asm); (case y2k6 => k_is); (case y2k7 => k_is); (case y2k8 => walk_at "mine room"); (case y2k9 => first | exact BindsTo.of_eq rfl | exact binds_K (by k_in) rfl (by k_is) rfl rfl rfl); (case y2kB => exact rfl); (case y2kD => decide +kernel); (case y2c2 => exact rfl); (case y2c3 => exact rfl); (case y2c4 => exact rfl); k_whole; intro w9g' w9L' w9h' w9tk' w9cells' w9FG' w9F' w9N' w9Y' w9B' w9X' w9T' w9l1; (try k_lt w9l1); k_cells w9Y'; (try simp only [List.cons_append, List.nil_append] at w9N'); (try dsimp only); (try k_lift w9B'); (try k_fold))))
  k_with "call ref" => ((k_here; k_dflt (walk_at "mine enter")))
  k_with "execs cons" => ((k_here; (try k_gentoks); (try dsimp only); (with_reducible refine wpAny_execs_cons ?_); (try dsimp only); k_fold))
  k_with "mine bound" => (first | omega | exact Int.fmod_nonneg_of_pos _ (by decide) | exact Int.fmod_lt_of_pos _ (by decide))
  k_with "mine short" => (first | exact Nat.le_of_ble_eq_true rfl | ((try simp only [PySem.Str.length_append]); (try kopn_lits); omega))
  k_with "mine open" => ((fail_if_success (with_reducible show wpAny _ _ (subscriptTail _ (Expr.Constant _ _ _) _ _) _ _ _)))
  k_with "subscriptTail" => ((k_here; (with_reducible show wpAny _ _ (subscriptTail _ _ (Value.ref _) (Value.int _ _)) _ _ _); walk_at "mine open"; k_dflt (first
  | (refine item_pickS4 3 (by k_asm) (List.Mem.head _) (by walk_at "mine bound") (by walk_at "mine bound") (by walk_at "mine short") (by walk_at "mine short") (by walk_at "mine short") (by walk_at "mine short") ?_; intro _ _)
  | (refine item_pickS4 60 (by k_asm) (List.Mem.head _) (by walk_at "mine bound") (by walk_at "mine bound") (by walk_at "mine short") (by walk_at "mine short") (by walk_at "mine short") (by walk_at "mine short") ?_; intro _ _)
  | (refine item_pickS2 (by k_asm) (List.Mem.head _) (by walk_at "mine bound") (by walk_at "mine bound") (by walk_at "mine short") (by walk_at "mine short") ?_; intro _ _)
  | (refine item_pickI2 (by k_asm) (List.Mem.head _) (by walk_at "mine bound") (by walk_at "mine bound") ?_; intro _))))
  k_with "mine mem" => (first | exact List.Mem.head _ | (refine List.Mem.tail _ ?_; walk_at "mine mem"))
  k_with "pyIter ref" => (((with_reducible show wpAny _ _ (pyIter (Value.ref _)) (fun it s₂ => LoopAtV _ _ _ _ _ _ _ _ _ it s₂) _ _); with_unfolding_all refine iter_listUnr (by rfl) (by k_asm) (by k_asm) (by walk_at "mine mem") (by rfl) (by rfl) ?_; intro w9i' w9l1))
  k_with "UnrEnd" => ((refine unrEnd_of (by k_asm) (by k_asm) (by assumption) ⟨by walk_at "mine mem", ?_⟩))
  k_with "pyIter ref" => (((with_reducible show wpAny _ _ (pyIter (Value.ref _)) (fun it s₂ => TurnsAt _ _ _ _ _ _ _ _ _ it s₂) _ _); with_unfolding_all refine iter_listTurns (by rfl) (by k_asm) (by k_asm) (by walk_at "mine mem") (by rfl) (by rfl) ?_; intro w9i' w9l1))
  k_with "UnrEndW" => ((refine unrEndW_of (by k_asm) (by k_asm) (by assumption) ⟨⟨by walk_at "mine mem", trivial⟩, ?_⟩))
  k_with "mine sub" => ((intro w9p w9hp; first | exact w9hp | (simp only [List.mem_cons, List.mem_append] at w9hp ⊢; first | (simp only [w9hp, true_or, or_true]; done) | (rcases w9hp with w9hp | w9hp <;> simp only [w9hp, true_or, or_true] <;> done))))
  k_with "call builtin:list.append" => ((have := ‹Hold›; apply StopL.out))
  k_with "call builtin:max" => ((k_here; (with_reducible show wpAny _ _ (call (Value.builtin "max") [Value.ref _]) _ _ _); k_dflt (refine' max_led ?y79k0 ?y79k1 ?y79k2 ?y79k3 ?y79k4 ?y79k5 ?_; (case y79k0 => with_unfolding_all rfl); (case y79k1 => k_asm); (case y79k2 => k_asm); (case y79k3 => walk_at "mine in"); (case y79k4 => with_reducible assumption); (case y79k5 => with_reducible assumption); k_whole); intro w9h' w9M' w9t' w9tk' w9F' w9N' w9a' w9b'))
  k_with "getMethod ref" => ((k_here; (with_reducible show wpAny _ _ (getMethod (Value.ref _) (PySem.Str.ofString "index") _) _ _ _); k_dflt (refine' index_method rfl ?y80N ?y80m ?_; (case y80N => k_asm); (case y80m => walk_at "mine in"); k_whole)))
  k_with "call builtin:list.index" => ((k_here; (with_reducible show wpAny _ _ (call (Value.builtin _) [Value.ref _, Value.int _ _]) _ _ _); k_dflt (refine' index_led ?y81N ?y81m ?y81i ?y81e ?y81z ?_; (case y81N => k_asm); (case y81m => walk_at "mine in"); (case y81i => with_reducible assumption); (case y81e => with_reducible assumption); (case y81z => with_reducible assumption); k_whole)))
  k_with "callWith ref" => ((k_here; (with_reducible show wpAny _ _ (callWith _ (Value.ref _) _ (backTo _ (starEach [] _)) []) _ _ _); k_dflt (refine' callWith_K0 ?y82k1 ?y82k2 ?_; (case y82k1 => k_in); (case y82k2 => k_is); k_whole)))
  k_with "SrcLP" => ((apply StopL.out))
  k_with "compareOp Eq ref ref" => ((have := ‹HoldE›; apply StopL.out))
  k_with "call builtin:len" => ((k_here; (with_reducible show wpAny _ _ (call (Value.builtin "len") [Value.ref _]) _ _ _); k_dflt (refine' len_led ?y85k0 ?y85k1 ?y85k2 ?_; (case y85k0 => k_asm); (case y85k1 => walk_at "mine in"); (case y85k2 => with_reducible assumption); k_whole); intro _ _))
  k_with "call builtin:sorted" => ((k_here; (with_reducible show wpAny _ _ (call (Value.builtin "sorted") [Value.ref _]) _ _ _); k_dflt (refine' sorted_led ?y86k0 ?y86k1 ?y86k2 ?y86k3 ?y86k4 ?_; (case y86k0 => k_asm); (case y86k1 => k_asm); (case y86k2 => walk_at "mine in"); (case y86k3 => with_reducible assumption); (case y86k4 => with_reducible assumption); k_whole); intro w9D' w9vs' w9ns' w9c' w9h' w9F' w9N' w9l' w9i' w9p' w9o'))
  k_with "compareOp In none ref" => ((k_here; k_dflt (refine in_none (by k_asm) (by walk_at "mine in") (by with_reducible assumption) ?_)))
  k_with "call ref" => ((apply StopL.out))
  k_with "exec Assign cons ListComp" => (((first | (with_reducible show wpAny _ _ (exec (Stmt.Assign [Expr.Name (Str.ofString "steps") _] _ _) _) _ _ _) | (with_reducible show wpAny _ _ (exec (Stmt.Assign [Expr.Name (Str.ofString "totals") _] _ _) _) _ _ _)); apply StopL.out))
  k_with "exec For Name Call cons nil" => ((apply StopL.out))
  k_with "CompSrc" => ((apply StopL.out))
  k_with "CompSrcT" => ((apply StopL.out))
  k_with "CompEnd" => ((apply StopL.out))
  k_with "mine lt16" => (first | (with_reducible assumption) | exact lt16 (by with_reducible assumption) | exact sub16 _)
  k_with "binaryOp Pow int int" => ((k_here; k_dflt (refine pow_nat (by decide) (by walk_at "mine lt16") ?_; intro _ _)))
  k_with "binaryOp Pow int int" => ((k_here; (with_reducible show wpAny _ _ (binaryOp _ (Value.int _ _) (Value.int (HSub.hSub _ (Nat.cast _)) _)) _ _ _); k_dflt (refine pow_sub (by decide) (by walk_at "mine lt16") ?_; intro _ _)))
  k_with "binaryOp FloorDiv int int" => ((k_here; (with_reducible show wpAny _ _ (binaryOp _ (Value.int _ _) (Value.int (HPow.hPow (_ : Int) (_ : Nat)) _)) _ _ _); k_dflt (first
  | (refine fdiv_nat (by exact Int.ne_of_gt (pow_pos_of (by decide) _)) (pow_small _ (by walk_at "mine lt16")).1 ?_; intro _ _)
  | (refine fdiv_nat (by exact Int.ne_of_gt (pow_pos_of (by decide) _)) (pow_small _ (by walk_at "mine lt16")).2.1 ?_; intro _ _)
  | (refine fdiv_nat (by exact Int.ne_of_gt (pow_pos_of (by decide) _)) (pow_small _ (by walk_at "mine lt16")).2.2.1 ?_; intro _ _)
  | (refine fdiv_nat (by exact Int.ne_of_gt (pow_pos_of (by decide) _)) (pow_small _ (by walk_at "mine lt16")).2.2.2 ?_; intro _ _))))
  k_with "mine in" => (first | (with_reducible assumption) | exact List.mem_cons_self | (refine List.mem_cons_of_mem _ ?_; walk_at "mine in") | (refine List.mem_append.mpr (.inr ?_); walk_at "mine in"))
  k_with "subscriptTail Name Name ref int" => ((k_here; (with_reducible show wpAny _ _ (subscriptTail _ _ (Value.ref _) (Value.int (Nat.cast _) _)) _ _ _); k_dflt (refine item_at (by k_asm) (by walk_at "mine in") (Int.natCast_nonneg _) (nat63 (by walk_at "mine lt16")) (by with_reducible assumption) ?_)))
  trivial
noncomputable def StopL (P : Prop) : Prop := P
theorem StopL.out {P : Prop} (h : StopL P) : P := h
inductive Hold : Prop
  | on
inductive HoldE : Prop
  | on
local macro_rules | `(tactic| k_ne) => `(tactic| (refine neN ?_; (try dsimp only); first | (with_reducible assumption) | (with_reducible exact Ne.symm (by assumption)) | omega))
set_option maxHeartbeats 8000000 in
theorem law_d : PySem.Challenge.rw_xj0001_01.Holds := hd (by
  k_go0
  all_goals try k_fold
  k_steps
  apply StopL.out
  (rename Fr _ _ _ _ => f9); (rename News _ _ _ _ => n9); (rename Below _ _ _ _ => b9); (rename Heap.IsList _ _ _ => hl9); (rename IntsAre _ _ => hi9)
  refine' cells_c _ _ _ hi9 ?len _ _ _ _ _ _ _ _ _ _ _ _ _ _ _ _ _ b9 f9 ?X n9 ?T hl9 ?K ?d ?u ?_
  case len => omega
  case X => k_asm
  case T => k_asm
  case K => exact rfl
  case d => decide
  case u => decide
  k_whole
  intro v1 tl1 h1 tk1 F1 N1 r1
  obtain ⟨ca, ct, cu, cn, c0, c1, rfl, hm1⟩ := r1
  replace N1 := news_pick N1 hm1
  clear f9 n9 hm1
  obtain ⟨na1, na2, na3, na4, na5, na6⟩ := ne6 N1 (by with_reducible assumption) (by with_reducible assumption) (by with_reducible assumption) (by with_reducible assumption) (by with_reducible assumption) (by with_reducible assumption)
  k_steps
  -- the steps
  apply StopL.out
  (rename Fr _ _ _ _ => f9)
  refine LCg.Assign_ListComp_U (F₀ := f9) (by rfl) (by with_unfolding_all rfl) (by rfl) (by decide) (by rfl) (by decide) (by rfl) (by rfl) (by rfl) ?_
  k_steps
  apply StopL.out
  (rename Fr _ _ _ _ => f9); (rename News _ _ _ _ => n9); (rename IsRange _ _ _ _ _ _ _ _ => r9)
  refine srcU_range (n := 4) (IvS _) (by rfl) f9 n9 r9 (by decide) (by decide) (by decide) IvS.start ?T1 ?Fi1
  case T1 =>
    intro g k ys led v I2 oI2 C oC D m₂ h2 tk2 E2 hk hV hP hC hx F2 N2 off2 ne2
    obtain ⟨t2, rfl⟩ := hP
    simp only [Int.zero_add] at hx
    have hled := hV.1
    subst hled
    dsimp only
    k_steps
    apply StopL.out
    (rename Fr _ _ _ _ => f8); (rename News _ _ _ _ => n8)
    exact ⟨_, _, _, rfl, f8, n8, off2, trivial, hV.next (step_bound _ _)⟩
  case Fi1 =>
    intro g ys led hV D h9 tk9 F9 N9 o9
    obtain ⟨s0, u0, s1, u1, s2, u2, s3, u3, rfl, rfl, hsb⟩ := hV.four
    clear f9 n9 r9
    simp only [LCg.Off1, and_true] at o9
    obtain ⟨oa1, oa2, oa3, oa4, oa5, oa6, oa7⟩ := o9
    show wpAny _ _ _ _ _ _
    dsimp only
    k_steps
    apply StopL.out
    (rename Fr _ _ _ _ => f9); (rename News _ _ _ _ => n9)
    with_unfolding_all refine' For_range1 f9 ?k0 ?k1 ?k2 ?_
    case k0 => exact rfl
    case k1 => exact rfl
    case k2 => exact rfl
    k_whole
    k_steps
    (rename Fr _ _ _ _ => f9); (rename News _ _ _ _ => n9); (rename IsRange _ _ _ _ _ _ _ _ => r9)
    refine' ⟨_, 0, 4, _, _, _, 4, _, _, JL _ _ D _ s0 s1 s2 s3, rfl, rfl, r9, by decide, by decide, f9, n9, ⟨#[], 0, #[], 0, rfl, rfl, rfl, rfl, rfl, (fun _ h => absurd h (Nat.not_lt_zero _)), fun _ h => absurd h (Nat.not_lt_zero _)⟩, ?step, ?fin⟩
    case fin =>
      intro h9 tk9 m9 led9 hJ F9 N9
      obtain ⟨zs, nz, ps, np, hm1, hm2, rfl, hz1, hp1, hz2, hp2⟩ := hJ
      clear f9 n9 r9
      obtain ⟨m2, rfl⟩ := m_is2 hm1 hm2
      show wpAny _ _ _ _ _ _
      k_steps
      apply StopL.out
      (rename Fr _ _ _ _ => f9); (rename News _ _ _ _ => n9)
      refine' Claim.use (dep_c D _ s0 s1 s2 s3 (List.toArray [.int s0 u0, .int s1 u1, .int s2 u2, .int s3 u3]) ps 4 np (by walk_at "mine in") (by walk_at "mine in") (.cons _ _ (.cons _ _ (.cons _ _ (.cons _ _ .nil)))) (pieces_ok hsb hp2)) b9 f9 ?X n9 ?T ?K ?d ?u ?_
      case X => k_asm
      case T => k_asm
      case K => exact rfl
      case d => decide
      case u => decide
      k_whole
      intro v' tl' h' tk' F' N' r'
      obtain ⟨da, dits, dn, rfl, hdm, hdI⟩ := r'
      replace N' := news_pick N' hdm
      obtain ⟨ds, rfl, hdI⟩ := as_list hdI
      clear f9 n9 hdm
      obtain ⟨nb1, nb2, nb3, nb4, nb5, nb6⟩ := ne6 (news_ne N') (by with_reducible assumption) (by with_reducible assumption) (by with_reducible assumption) (by with_reducible assumption) (by with_reducible assumption) (by with_reducible assumption)
      k_steps
      -- the walks
      apply StopL.out
      (rename Fr _ _ _ _ => f9); (rename News _ _ _ _ => n9); (rename IsRange _ _ _ _ _ _ _ _ => r9)
      refine srcU_range (n := 16) (IvF _ (upAt s0 s1 s2 s3)) (by rfl) f9 n9 r9 (by decide) (by decide) (by decide) IvF.start ?T7 ?Fi7
      case T7 =>
        intro g k ys led v I2 oI2 C oC D m₂ h2 tk2 E2 hk hV hP hC hx F2 N2 off2 ne2
        obtain ⟨t2, rfl⟩ := hP
        simp only [Int.zero_add] at hx
        have hled := hV.1
        subst hled
        obtain ⟨td, hdk⟩ := ints_at hdI hk
        have sb := sums_b hsb k
        have wb := way_b
        dsimp only
        k_steps
        apply StopL.out
        (rename Fr _ _ _ _ => f8); (rename News _ _ _ _ => n8)
        refine' Claim.use (over_c _ _ _ _ sb.1 sb.2 (wb _).1 (wb _).2) b9 f8 ?X n8 ?T ?K ?d ?u ?_
        case X => k_asm
        case T => k_asm
        case K => exact rfl
        case d => decide
        case u => decide
        k_whole
        intro v' tl' h' tk' F' N' r'
        obtain ⟨rfl, tv, rfl⟩ := r'
        replace N' := news_drop (tl := []) N'
        exact ⟨_, _, _, rfl, F', N', off2, trivial, hV.next rfl⟩
      case Fi7 =>
        intro g ys led hV D h9 tk9 F9 N9 o9
        have hwI := hV.2
        have hled := hV.1
        subst hled
        clear f9 n9 r9
        simp only [LCg.Off1, and_true] at o9
        obtain ⟨ob1, ob2, ob3, ob4, ob5, ob6, ob7, ob8, ob9, ob10, ob11, ob12⟩ := o9
        show wpAny _ _ _ _ _ _
        dsimp only
        k_steps
        -- the clocks
        apply StopL.out
        (rename Fr _ _ _ _ => f9); (rename News _ _ _ _ => n9)
        (rename _ ∧ _ ∧ _ ∧ _ ∧ _ ∧ _ ∧ _ ∧ _ ∧ _ ∧ _ ∧ _ ∧ _ ∧ _ => lK)
        with_unfolding_all refine' For_cell f9 ?k0 ?k1 ?k2 ?k3 ?_
        case k0 => exact rfl
        case k1 => exact rfl
        case k2 => exact rfl
        case k3 => exact rfl
        k_whole
        k_steps
        (rename Fr _ _ _ _ => f9); (rename News _ _ _ _ => n9); (rename IsRange _ _ _ _ _ _ _ _ => r9)
        have nS := news_S8 n9
        have hmc := nS
        refine' ⟨_, 0, 16, _, _, _, 16, _, _, _, _, JK _ _ s0 s1 s2 s3, rfl, rfl, r9, by decide, by decide, f9, nS, by with_reducible assumption, off_cell nS (by with_reducible assumption) (by first | (simp; done) | omega) (by first | (simp; done) | omega) (by first | (simp; done) | omega) (by first | (simp; done) | omega), ⟨#[], 0, rfl, .nil⟩, ?step8, ?fin8⟩
        case fin8 =>
          intro h9 tk9 m9 led9 oc9 hJ9 F9 N9
          obtain ⟨cs, nc, rfl, hcI⟩ := hJ9
          have hoff := lK
          clear f9 n9 r9 nS hmc
          show wpAny _ _ _ _ _ _
          replace hwI : IntsAre (List.toArray ys).toList _ := hwI
          k_steps
          -- the orders
          apply StopL.out
          (rename Fr _ _ _ _ => f9); (rename News _ _ _ _ => n9)
          with_unfolding_all refine' For_list1 f9 ?k0 ?k1 ?k2 ?_
          case k0 => exact rfl
          case k1 => exact rfl
          case k2 => exact rfl
          k_whole
          k_steps
          apply StopL.out
          refine' Claim.use ord_c b9 f9 ?X n9 ?T ?K ?d ?u ?_
          case X => k_asm
          case T => k_asm
          case K => exact rfl
          case d => decide
          case u => decide
          k_whole
          intro v' tl' h' tk' F' N' r'
          obtain ⟨ra, rits, rn, rfl, hrm, hR⟩ := r'
          clear lK
          (rename _ ∧ _ ∧ _ ∧ _ ∧ _ ∧ _ ∧ _ ∧ _ ∧ _ ∧ _ ∧ _ => lC)
          have lC2 := PLift.up lC
          clear lC
          (rename _ ∧ _ ∧ _ ∧ _ ∧ _ ∧ _ ∧ _ ∧ _ ∧ _ ∧ _ => lP)
          have lP2 := PLift.up lP
          clear lP
          (rename _ ∧ _ ∧ _ ∧ _ ∧ _ ∧ _ ∧ _ ∧ _ ∧ _ => lH)
          obtain ⟨tl2, hs2, ho2, hra, hR2, hrz⟩ := rows_off N' (List.mem_cons_of_mem _ (List.mem_cons_of_mem _ List.mem_cons_self)) (List.mem_cons_of_mem _ List.mem_cons_self) List.mem_cons_self hrm hR
          have nS := news_S10 N' hs2
          have oS := off_S10 nS lC2.down lP2.down lH ho2
          obtain ⟨oS, oPH, oCH, oCP⟩ := oS
          rw [up_is] at hcI hwI
          clear N' f9 n9 lH ho2 hR hrm hs2
          clear hoff na1 na2 na3 na4 na5 na6 nb1 nb2 nb3 nb4 nb5 nb6 oa1 oa2 oa3 oa4 oa5 oa6 oa7 ob1 ob2 ob3 ob4 ob5 ob6 ob7 ob8 ob9 ob10 ob11 ob12
          repeat (rename _ < _ ∧ _ => zz9; clear zz9)
          refine' ⟨ra, rits, _, _, JH _ _ _ _ (hAt s0 s1 s2 s3), rfl, rfl, F', nS, fun i m led hJ => ?src, ⟨#[], 0, #[], 0, #[], 0, rfl, rfl, rfl, rfl, .nil, .nil, .nil⟩, ?step10, ?fin10⟩
          case src =>
            obtain ⟨_, _, _, _, _, _, _, _, _, rfl, _⟩ := hJ
            exact .inr ⟨_, by walk_at "mine in", rfl, _, rfl⟩
          case fin10 =>
            intro h9 tk9 m9 led9 hJ9 F9 N9
            obtain ⟨ct, ck, pt, pk, ht, hk, hm1, hm2, hm3, rfl, hI1, hI2, hI3⟩ := hJ9
            obtain ⟨m2, rfl⟩ := m_is3L hm1 hm2 hm3
            rw [hrz, ord_all] at hI1 hI2 hI3
            clear F' nS oS
            show wpAny _ _ _ _ _ _
            k_steps
            apply StopL.out
            (rename Fr _ _ _ _ => f9)
            refine LCg.Assign_ListComp_U (F₀ := f9) (by rfl) (by with_unfolding_all rfl) (by with_unfolding_all rfl) (by decide) (by rfl) (by decide) (by rfl) (by rfl) (by rfl) ?_
            k_steps
            apply StopL.out
            (rename Fr _ _ _ _ => f9); (rename News _ _ _ _ => n9)
            refine' Claim.use ring_c b9 f9 ?X n9 ?T ?K ?d ?u ?_
            case X => k_asm
            case T => k_asm
            case K => exact rfl
            case d => decide
            case u => decide
            k_whole
            intro v' tl' h' tk' F' N' r'
            obtain ⟨ga, gits, gn, rfl, hgm, hG⟩ := r'
            replace N' := news_S12 N'
            clear f9 n9
            have hgz := rings_size hG
            k_steps
            apply StopL.out
            (rename Fr _ _ _ _ => f9); (rename News _ _ _ _ => n9)
            refine srcU_list (ax := ga) (its := gits) (k := gn) (IvO _ (hAt s0 s1 s2 s3)) (by rfl) f9 n9 (by walk_at "mine in") ?szO IvO.start ?TO ?FiO
            case szO => rw [hgz]; decide
            case TO =>
              intro g k ys2 led v I2 oI2 C2 oC2 D2 m₂ h2 tk2 E2 hk2 hV hP hC2 hx F2 N2 off2 ne2
              obtain ⟨ra2, ris, rn2, rr, rfl, hrm2, hrr, hrt, hrz4, hr16⟩ := rings_at hG hP
              have hled := hV.1
              subst hled
              clear f9 n9
              dsimp only
              k_steps
              apply StopL.out
              (rename Fr _ _ _ _ => f8); (rename News _ _ _ _ => n8)
              refine srcP_list (ax := ra2) (its := ris) (k := rn2) (IvI _ (hAt s0 s1 s2 s3) rr) (by rfl) f8 n8 (by walk_at "mine in") ?szI IvI.start ?TI ?FiI
              case szI => exact Nat.le_trans hrz4 (by decide)
              case TI =>
                intro g3 i3 ys3 led3 v3 hk3 hV3 hP3
                obtain ⟨bt, ta, tb, kk, zz, rfl, hbt, hk16, htk⟩ := pair_at hrt hr16 hP3
                obtain ⟨tw, hwm⟩ := ints_at hcI hk16
                rw [Array.toArray_toList] at hwm
                have hled3 := hV3.1
                subst hled3
                clear f8 n8
                refine ⟨bt, _, _, _, 0, rfl, by walk_at "mine in", rfl, rfl, ?_⟩
                intro I3 oI3 C3 oC3 D3 m3 h3 tk3 E3 hC3 hx3 hy3 F3 N3 off3 ne3
                dsimp only
                k_steps
                (rename Fr _ _ _ _ => f8); (rename News _ _ _ _ => n8)
                exact ⟨_, _, _, rfl, f8, n8, off3, .inr ⟨_, by walk_at "mine in", rfl, _, rfl⟩, hV3.next htk rfl⟩
              case FiI =>
                intro g3 ys3 led3 hV3 D3 h9 tk9 F9 N9 o9
                obtain ⟨hled3, ns, hns, hsum, hln⟩ := hV3.done (by rw [← hrt.len, Array.length_toList])
                subst hled3
                clear f8 n8
                have hnsz : ys3.toArray.toList.length ≤ 4 := by
                  rw [List.toList_toArray, intsAre_len hns, hln]; exact hrz4
                show wpAny _ _ _ _ _ _
                dsimp only
                k_steps
                (rename Fr _ _ _ _ => f8); (rename News _ _ _ _ => n8)
                exact ⟨_, _, _, rfl, f8, fun p hp => n8 p (List.mem_cons_of_mem _ hp), off2, .inr ⟨_, by walk_at "mine in", rfl, _, rfl⟩, hV.next hrr hsum⟩
            case FiO =>
              intro g ys2 led hV D2 h9 tk9 F9 N9 o9
              obtain ⟨hled, hT⟩ := hV.done hgz
              subst hled
              clear f9 n9
              replace hT : IntsAre (List.toArray ys2).toList _ := hT
              have lp := law_plain hsb
              have holdE := HoldE.on
              have l1 : (List.map (fun r => ((mx (hAt s0 s1 s2 s3) r : Nat) : Int)) ordL).length < 64 := by rw [List.length_map]; decide
              have l2 : (List.map (fun r => ((sm (hAt s0 s1 s2 s3) r : Nat) : Int)) ringL).length < 64 := by rw [List.length_map]; decide
              have l3 : (List.map (fun r => ((fst' (hAt s0 s1 s2 s3) (mx (hAt s0 s1 s2 s3) r) r : Nat) : Int)) ordL).length < 64 := by rw [List.length_map]; decide
              have l4 : (List.map (fun r => ((cnt' (hAt s0 s1 s2 s3) r : Nat) : Int)) ordL).length < 64 := by rw [List.length_map]; decide
              show wpAny _ _ _ _ _ _
              dsimp only
              k_steps
              apply StopL.out
              (rename Fr _ _ _ _ => f9); (rename News _ _ _ _ => n9); (rename List.Pairwise _ _ => q2); (rename List.Perm _ _ => p2); (rename IntsAre _ _ => i2)
              have q2' := PLift.up q2
              have p2' := PLift.up p2
              have i2' := PLift.up i2
              clear q2 p2 i2
              (rename List.Pairwise _ _ => q1); (rename List.Perm _ _ => p1); (rename IntsAre _ _ => i1)
              refine eq_same n9 (List.mem_cons_of_mem _ List.mem_cons_self) i1 List.mem_cons_self i2'.down (by units_room) (sorted_same p1 p2'.down q1 q2'.down lp.1) ?_
              clear i1 p1 q1
              k_steps
              apply StopL.out
              (rename News _ _ _ _ => n9); (rename List.Pairwise _ _ => q4); (rename List.Perm _ _ => p4); (rename IntsAre _ _ => i4)
              have q4' := PLift.up q4
              have p4' := PLift.up p4
              have i4' := PLift.up i4
              clear q4 p4 i4
              (rename List.Pairwise _ _ => q3); (rename List.Perm _ _ => p3); (rename IntsAre _ _ => i3)
              refine eq_same n9 (List.mem_cons_of_mem _ List.mem_cons_self) i3 List.mem_cons_self i4'.down (by units_room) (sorted_same p3 p4'.down q3 q4'.down lp.2) ?_
              k_steps
          case step10 =>
            intro i v m₁ led₁ I oI h' tk' E' hv hJ off' F' N'
            obtain ⟨xs, xk, ps, pk, hs, hk, hm1, hm2, hm3, rfl, hI1, hI2, hI3⟩ := hJ
            obtain ⟨m2, rfl⟩ := m_is3L hm1 hm2 hm3
            obtain ⟨b, bits, bn, row, rfl, hbm, hrow, hbI, hr5, hr16, hi⟩ := orow_at hR2 hv
            have hold := Hold.on
            k_steps
            -- the rises
            apply StopL.out
            (rename Fr _ _ _ _ => f9); (rename News _ _ _ _ => n9)
            refine srcU_list (ax := b) (its := bits) (k := bn) (IvR _ (hAt s0 s1 s2 s3) row) (by rfl) f9 n9 (by walk_at "mine in") ?szR IvR.start ?TR ?FiR
            case szR => rw [← Array.length_toList, intsAre_len hbI, List.length_map, hr5]; decide
            case TR =>
              intro g k ys2 led v I2 oI2 C2 oC D2 m₂ h2 tk2 E2 hk2 hV hP hC2 hx F2 N2 off2 ne2
              obtain ⟨mm, tm, rfl, hmr, htk⟩ := row_at hbI hP
              have hm16 := hr16 mm hmr
              obtain ⟨tw, hwm⟩ := ints_at hwI hm16
              have hled := hV.1
              subst hled
              clear f9 n9
              dsimp only
              k_steps
              (rename Fr _ _ _ _ => f8); (rename News _ _ _ _ => n8)
              exact ⟨_, _, _, rfl, f8, n8, off2, .inr ⟨_, by walk_at "mine in", rfl, _, rfl⟩, hV.next htk rfl⟩
            case FiR =>
              intro g ys2 led hV D2 h9 tk9 F9 N9 o9
              have hled := hV.1
              subst hled
              have hvI := hV.2
              clear f9 n9
              have o10 := o9
              have hbz : bits.size = row.length := by rw [← Array.length_toList, intsAre_len hbI, List.length_map]
              rw [hbz, List.take_length] at hvI
              simp only [LCg.Off1, and_true] at o9
              replace hvI : IntsAre (List.toArray ys2).toList _ := hvI
              have hv0 : 0 < (List.map (fun m => ((hAt s0 s1 s2 s3 m : Nat) : Int)) row).length := by rw [List.length_map, hr5]; decide
              have hv64 : (List.map (fun m => ((hAt s0 s1 s2 s3 m : Nat) : Int)) row).length ≤ 64 := by rw [List.length_map, hr5]; decide
              show wpAny _ _ _ _ _ _
              dsimp only
              k_steps
              apply StopL.out
              (rename Fr _ _ _ _ => f9); (rename News _ _ _ _ => n9); (rename _ ∈ List.map _ _ => hx1); (rename ∀ _ ∈ List.map _ _, _ ≤ _ => hx2)
              obtain rfl := mx_is hx1 hx2
              have iC : @Ne Nat _ _ := off' _ List.mem_cons_self
              have iP : @Ne Nat _ _ := off' _ (List.mem_cons_of_mem _ List.mem_cons_self)
              have iH : @Ne Nat _ _ := off' _ (List.mem_cons_of_mem _ (List.mem_cons_of_mem _ List.mem_cons_self))
              refine app_mid [_, _, _, _] _ f9 n9 (off4 (Ne.symm o9.2.2.2.1) (Ne.symm iH) oCH oPH) (fun p hp => (oS p hp).1) (sz_take hI1 hi) fun h' F' N' => ?_
              clear f9 n9 hx1 hx2
              simp only [List.cons_append, List.nil_append] at N'
              dsimp only
              k_steps
              apply StopL.out
              (rename Fr _ _ _ _ => f9); (rename News _ _ _ _ => n9); (rename _ ∈ List.map _ _ => hx1); (rename ∀ _ ∈ List.map _ _, _ ≤ _ => hx2)
              obtain rfl := mx_is hx1 hx2
              rw [idx_is]
              refine app_mid [_, _, _] _ f9 n9 (off3 (Ne.symm o9.2.2.1) (Ne.symm iP) oCP) (off_consL (Ne.symm oPH) fun p hp => (oS p hp).2.1) (sz_take hI2 hi) fun h' F' N' => ?_
              clear f9 n9 hx1 hx2
              simp only [List.cons_append, List.nil_append] at N'
              dsimp only
              k_steps
              -- the counted masks
              apply StopL.out
              (rename Fr _ _ _ _ => f9); (rename News _ _ _ _ => n9)
              refine srcT_list (ax := b) (its := bits) (k := bn) (IvC _ (hAt s0 s1 s2 s3) row) (by rfl) f9 n9 (by walk_at "mine in") ?szC IvC.start ?TC ?FiC
              case szC => rw [hbz, hr5]; decide
              case TC =>
                intro g k ys3 led v I2 oI2 C2 oC D3 m₂ h2 tk2 E2 hk2 hV hP hC2 hx F2 N2 off2 ne2
                obtain ⟨mm, tm, rfl, hmr, htk⟩ := row_at hbI hP
                have hm16 := hr16 mm hmr
                obtain ⟨tw, hwm⟩ := ints_at hcI hm16
                rw [Array.toArray_toList] at hwm
                have hled := hV.1
                subst hled
                clear f9 n9
                dsimp only
                k_steps
                · (rename Fr _ _ _ _ => f8); (rename News _ _ _ _ => n8); (rename ((_ : Int) < _) => yes)
                  exact ⟨_, _, _, rfl, f8, n8, off2, .inr ⟨_, by walk_at "mine in", rfl, _, rfl⟩, hV.yes htk yes⟩
                · (rename Fr _ _ _ _ => f8); (rename News _ _ _ _ => n8)
                  refine ⟨_, _, _, rfl, f8, n8, off2, .inr ⟨_, by walk_at "mine in", rfl, _, rfl⟩, hV.no htk ?_⟩
                  first | (with_reducible assumption) | exact Int.not_lt.mpr (by with_reducible assumption) | omega
              case FiC =>
                intro g ys3 led hV D3 h9 tk9 F9 N9 o9
                have hled := hV.1
                subst hled
                have hcn := hV.2.1
                have hcz := hV.2.2
                clear f9 n9
                rw [hbz, List.take_length] at hcn
                simp only [LCg.Off1, and_true] at o9
                have hc5 : ys3.toArray.size ≤ 64 := by rw [List.size_toArray]; exact Nat.le_trans hcz (by rw [hbz, hr5]; decide)
                show wpAny _ _ _ _ _ _
                dsimp only
                k_steps
                apply StopL.out
                (rename Fr _ _ _ _ => f9); (rename News _ _ _ _ => n9)
                refine app_mid [_, _, _] _ f9 n9 (off3 (Ne.symm o9.2.2.1) (Ne.symm o10.2.1) (Ne.symm iC)) (off_consL (Ne.symm oCP) (off_consL (Ne.symm oCH) fun p hp => (oS p hp).2.2)) (sz_take hI3 hi) fun h' F' N' => ?_
                clear f9 n9
                simp only [List.cons_append, List.nil_append] at N'
                refine wpAny_execs_nil ?_
                refine ⟨.inl rfl, _, _, _, _, rfl, F', fun p hp => N' p (List.mem_cons_of_mem _ (List.mem_cons_of_mem _ hp)), ?_, _, _, _, _, _, _, rfl, rfl, rfl, rfl, ints_snoc hI1 hrow rfl, ints_snoc hI2 hrow rfl, ints_snoc hI3 hrow ?_⟩
                · intro p hp
                  rcases List.mem_cons.mp hp with rfl | hp
                  · exact iC
                  rcases List.mem_cons.mp hp with rfl | hp
                  · exact iP
                  rcases List.mem_cons.mp hp with rfl | hp
                  · exact iH
                  · exact off' p (List.mem_cons_of_mem _ (List.mem_cons_of_mem _ (List.mem_cons_of_mem _ hp)))
                · rw [List.size_toArray, hcn]
        case step8 =>
          intro i m₁ led₁ I oI oc₁ t' h' tk' E' hi hJ off' hIc hoc F' N'
          obtain ⟨cs, nc, rfl, hcI⟩ := hJ
          clear f9 n9 r9 nS hmc
          simp only [Int.zero_add] at hoc
          k_steps
          apply StopL.out
          (rename Fr _ _ _ _ => f9); (rename News _ _ _ _ => n9); (rename IsRange _ _ _ _ _ _ _ _ => r9)
          refine srcT_range (n := 4) (IvZ _ s0 s1 s2 s3 i) (by rfl) f9 n9 r9 (by decide) (by decide) (by decide) IvZ.start ?T8 ?Fi8
          case T8 =>
            intro g k ys led v I2 oI2 C oC D m₂ h2 tk2 E2 hk hV hP hC hx F2 N2 off2 ne2
            obtain ⟨t2, rfl⟩ := hP
            simp only [Int.zero_add] at hx
            have hled := hV.1
            subst hled
            obtain ⟨tz, hzk⟩ := hz2 k hk
            replace hzk : zs[((k : Nat) : Int).toNat]? = some (.int (4200 * stp s0 s1 s2 s3 k) tz) := by rw [Int.toNat_natCast]; exact hzk
            clear r9 f9 n9
            dsimp only
            k_steps
            · (rename Fr _ _ _ _ => f9); (rename News _ _ _ _ => n9); (rename ((_ : Int) = _) => yes)
              exact ⟨_, _, _, rfl, f9, n9, off2, trivial, hV.yes hi hk ((bit_int hi hk).mp yes) rfl⟩
            · (rename Fr _ _ _ _ => f9); (rename News _ _ _ _ => n9); (rename ((_ : Int) ≠ _) => no)
              exact ⟨_, _, _, rfl, f9, n9, off2, trivial, hV.no hi hk fun q => no ((bit_int hi hk).mpr q)⟩
          case Fi8 =>
            intro g ys led hV D h9 tk9 F9 N9 o9
            obtain ⟨hled, ns, hns, hsum, hln⟩ := hV.done hi
            subst hled
            clear r9 f9 n9
            have hnsz : ys.toArray.toList.length ≤ 4 := by
              rw [List.toList_toArray, intsAre_len hns]; exact hln
            have hce := clock_is hsum
            show wpAny _ _ _ _ _ _
            dsimp only
            have hold := Hold.on
            k_steps
            apply StopL.out
            (rename Fr _ _ _ _ => f9); (rename News _ _ _ _ => n9)
            have sb := sums_b hsb i
            rw [← hce] at sb
            refine' Claim.use (over_c _ _ _ _ sb.1 sb.2 (way_b _).1 (way_b _).2) b9 f9 ?X n9 ?T ?K ?d ?u ?_
            case X => k_asm
            case T => k_asm
            case K => exact rfl
            case d => decide
            case u => decide
            k_whole
            intro v' tl' h' tk' F' N' r'
            obtain ⟨rfl, tv, rfl⟩ := r'
            replace N' := news_drop (tl := []) N'
            clear f9 n9
            k_steps
            apply StopL.out
            (rename Fr _ _ _ _ => f9); (rename News _ _ _ _ => n9)
            refine app_depth f9 n9 (allLt_S8 lK) off' ?_ fun h' F' N' off8 => ?_
            · rw [← Array.length_toList, intsAre_len hcI, List.length_map, List.length_range]; exact Nat.le_of_lt (Nat.lt_of_lt_of_le hi (by decide))
            · refine wpAny_execs_nil ?_
              exact ⟨.inl rfl, _, _, _, _, rfl, F', N', off8, JK.next hcI (congrArg (max · 0) hce)⟩
    case step =>
      intro i m₁ led I oI t' h' tk' E' hi hJ off' F' N'
      obtain ⟨zs, nz, ps, np, hm1, hm2, rfl, hz1, hp1, hz2, hp2⟩ := hJ
      clear f9 n9 r9
      obtain ⟨m2, rfl⟩ := m_is2 hm1 hm2
      simp only [Int.zero_add] at F'
      obtain ⟨ts, hst⟩ := steps_at (s0 := s0) (s1 := s1) (s2 := s2) (s3 := s3) (u0 := u0) (u1 := u1) (u2 := u2) (u3 := u3) hi
      obtain ⟨sb1, sb2⟩ := stp_bound hsb i
      have kb := kind_b (([c0, c1].getD (Int.toNat 1) 0).fdiv (256 ^ i))
      k_steps
      apply StopL.out
      (rename Fr _ _ _ _ => f9); (rename News _ _ _ _ => n9)
      refine' ClaimS.use0 (port_c _ _ _ _ sb1 sb2 kb.1 kb.2.1) b9 f9 ?X n9 ?T ?K ?d ?u ?_
      case X => k_asm
      case T => k_asm
      case K => exact rfl
      case d => decide
      case u => decide
      k_whole
      intro v' tl' h' tk' F' N' r'
      obtain ⟨tp, rfl⟩ := r'
      replace N' := news_drop N'
      clear f9 n9
      k_steps
      apply StopL.out
      (rename Fr _ _ _ _ => f9); (rename News _ _ _ _ => n9)
      refine' Claim.use (sec_c _ _ _ _ sb1 sb2 kb.2.2.1 kb.2.2.2.1) b9 f9 ?X n9 ?T ?K ?d ?u ?_
      case X => k_asm
      case T => k_asm
      case K => exact rfl
      case d => decide
      case u => decide
      k_whole
      intro v' tl' h' tk' F' N' r'
      obtain ⟨rfl, tse, rfl⟩ := r'
      replace N' := news_drop (tl := []) N'
      clear f9 n9
      k_steps
      apply StopL.out
      (rename Fr _ _ _ _ => f9); (rename News _ _ _ _ => n9)
      refine' Claim.use (piece_c _ _ _ _ sb1 sb2 kb.2.2.2.2.1 kb.2.2.2.2.2) b9 f9 ?X n9 ?T ?K ?d ?u ?_
      case X => k_asm
      case T => k_asm
      case K => exact rfl
      case d => decide
      case u => decide
      k_whole
      intro v' tl' h' tk' F' N' r'
      obtain ⟨rfl, tpi, rfl⟩ := r'
      replace N' := news_drop (tl := []) N'
      clear f9 n9
      have n1 : @Ne Nat _ _ := off' _ List.mem_cons_self
      have n2 : @Ne Nat _ _ := off' _ (List.mem_cons_of_mem _ List.mem_cons_self)
      dsimp only at n1 n2
      have hzz : zs.size ≤ 8 := by rw [hz1]; exact Nat.le_of_lt (Nat.lt_of_lt_of_le hi (by decide))
      have hpp : ps.size ≤ 8 := by rw [hp1]; exact Nat.le_of_lt (Nat.lt_of_lt_of_le hi (by decide))
      k_steps
      (rename Fr _ _ _ _ => f9); (rename News _ _ _ _ => n9)
      refine ⟨.inl rfl, _, _, _, _, rfl, f9, n9, fun q hq => ?_, JL.next rfl rfl hz1 hp1 hz2 hp2 rfl rfl kb.2.2.2.2.1 kb.2.2.2.2.2⟩
      rcases List.mem_cons.mp hq with rfl | hq
      · exact n1
      rcases List.mem_cons.mp hq with rfl | hq
      · exact n2
      · exact off' q (List.mem_cons_of_mem _ (List.mem_cons_of_mem _ hq)))
end
end Mine
set_option maxRecDepth 100000 in
set_option maxHeartbeats 8000000 in
theorem PySem.Challenge.cw_xj0001_01_holds : PySem.Challenge.rw_xj0001_01.Holds := by
  exact Mine.law_d
