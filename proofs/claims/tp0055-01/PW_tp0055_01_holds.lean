import PyProof.Rows.All
import Wide.All
import OpenK.AllK
import Wide.FinOn
import Lean
import PySem.Challenge.RW_tp0055_01
open PySem PySem.W PyProof.Rows
set_option Elab.async false
set_option maxRecDepth 100000
set_option maxHeartbeats 0
open PySem PySem.W PyProof.Rows
namespace Mine
noncomputable def q : Program := view PySem.Challenge.pw_tp0055_01 [0,1,3,4,5,7,9,11,12,13,14,15,17,18,19,20,21,23,24,25,26,27,28,29]
def loose : List Str := [Str.ofString "tspecials", Str.ofString "_name_disallowed_re", Str.ofString "_value_disallowed_re", Str.ofString "_formatparam"]
abbrev R : OpenRow := PySem.Challenge.rw_tp0055_01.row
noncomputable def qxt (s : Shared) : Bool := xlAt q [] s && recOk R.toRowW.records s
theorem c1 : chainsOk q = true := by kernel_rfl
theorem c2 : opensWell R.prog = true := by kernel_rfl
theorem c3 : (frees R.toRowW && R.toRowW.within.isEmpty) = true := by kernel_rfl
theorem c5 : R.prog.bare := ⟨rfl, rfl, rfl, rfl, rfl, by decide +kernel⟩
theorem c6 : (!R.writes || R.toRowW.records.isEmpty) = true := by kernel_rfl
theorem c7 : PySem.Challenge.rw_tp0055_01.wellSaid = true := by kernel_rfl
theorem c4 : R.wellSaid = true := row_said c7
theorem hd_aux (H : Hook) {d : DefRec} {kwd : List (Str × Expr)} (hdef : defOf q R.name = some (d, kwd)) (hp : R.prog.theDef R.name = some (d.params, d.body, d.scope)) (hk : kwWritten? d.params.kwonlyargs d.params.kw_defaults = some kwd)
  (hl : LeftO R.prog q loose qxt (Hook.obs H) (Hook.val H) 3206) (hw : R.toRowW.promised) (hc : WalkO q loose (XL q []) (Hook.says H) R.toRowW d kwd fun f vs => PySem.call f vs) : R.Holds :=
  holds_open (q := q) (loose := loose) (Xt := qxt) (XP := XL q []) (Yf := Hook.obs H) (Ya := Hook.val H) (YP := Hook.says H) (N := 3206) hl (Hook.of H) (Hook.keeps H) (fun s e => xl_of s (Bool.and_eq_true_iff.mp e).1) XL.keeps hdef hp hk (fun s e => recFacts_of (Bool.and_eq_true_iff.mp e).2) c6 c4 (by rw [c1, c2, c3]; rfl) c5 hw hc

local macro_rules | `(tactic| o_law) => `(tactic| refine holds_law c7 fun said => ?_)
local macro_rules | `(tactic| o_head $H:term) => `(tactic| (
  refine hd_aux $H (by rfl) (by rfl) (by rfl) ?hl ?hw ?hc
  (case hl => (intro w; kernel_rfl))))
open_top hd for PySem.Challenge.rw_tp0055_01
end Mine
open PySem PySem.W PyProof.Rows
namespace Mine
abbrev PW := PySem.Challenge.pw_tp0055_01
theorem fill : PySem.Challenge.rw_tp0055_01 = PySem.Challenge.rw_tp0055_01 ∧ hd.heap_1 = hd.heap_1 := by
  k_fill
  w_top off
  exact ⟨rfl, rfl⟩

/-- what every contract has ahead of it -/
abbrev Pre (w : World) (mean : ExcName → Option Value) (mg mb : Str → Option Value) (cs : Scope) (A₀ : Around) (outer : List Env) (base h₀ : Heap) (L : Addr) (m : Str → Option Value) (news : List (Addr × Obj)) (h : Heap) (dp un D U : Nat) (P : Prop) : Prop :=
  Below A₀ base outer h₀ → Fr h₀ L h m → (hd.heap_1 w.params).In h₀ → News h₀ L h news → Top q (looseW q loose) mean mg mb h₀ → cs.kind = .function → dp + D < recursionLimit → un + U < cLine → P
/-- holds a walk -/
def Hold (P : Prop) : Prop := P
theorem Hold.mk {P : Prop} (h : Hold P) : P := h
theorem Hold.out {P : Prop} (h : P) : Hold P := h
/-- what comes behind, as a word of its own -/
def GP {α : Type} (Q Q' : α → Shared → Prop) : Prop := ∀ v s, Q v s → Q' v s
theorem gen_post {P : Model} {A : Around} {α : Type} {prog : Sem α} {Q : α → Shared → Prop} {E : Value → Shared → Prop} {s : Shared} (h : ∀ Q' E', GP Q Q' → GP E E' → wpAny P A prog Q' E' s) : wpAny P A prog Q E s := h Q E (fun _ _ h => h) (fun _ _ h => h)
theorem gen_post1 {P : Model} {A : Around} {α : Type} {prog : Sem α} {Q : α → Shared → Prop} {E : Value → Shared → Prop} {s : Shared} (h : ∀ Q', GP Q Q' → wpAny P A prog Q' E s) : wpAny P A prog Q E s := h Q (fun _ _ h => h)
theorem gp_guard {P : Model} {A : Around} {α : Type} {prog : Sem α} {Q Q₀ : α → Shared → Prop} {E : Value → Shared → Prop} {s : Shared} (_g : GP Q₀ Q) (h : wpAny P A prog Q E s) : wpAny P A prog Q E s := h
theorem gp_use {α : Type} {Q Q' : α → Shared → Prop} {v : α} {s : Shared} (h : GP Q Q') (g : Q v s) : Q' v s := h v s g
end Mine
namespace Mine
-- C4 (3)
section
open PySem PySem.W PyProof.Rows
theorem in_lit {prog : Program} {w : World} {A : Around} {E : Value → Shared → Prop} {s : Shared} {x y : Str} {t u : Tok} {Q : Value → Shared → Prop} (b : Bool) (hb : (!(Builtin.Str.occurrences x y 0 x.length 1).isEmpty) = b) (h : Q (.bool b) s) : wpAny (model prog w) A (compareOp .In (.str y u) (.str x t)) Q E s := by
  subst hb
  exact PyProof.Rows.in_str h
theorem replace_lit {prog : Program} {w : World} {A : Around} {E : Value → Shared → Prop} {s : Shared} {x y z : Str} (r : Str) {t : Tok} {u : Nat} {Q : Value → Shared → Prop} (hr : Txt.replace x y z = r) (hyz : (y == z) = false) (hx : x.length ≤ 1048576) (hz : z.length ≤ 14) (h : ∀ t' k, Q (.str r t') { s with toks := k }) :
    wpAny (model prog w) A (call (.builtin "str.replace") [.str x t, .str y (u + 1 : Nat), .str z (u + 1 + 1 : Nat)]) Q E s := by
  subst hr
  exact SC.replaceW (Nat.succ_ne_zero _) (Nat.succ_ne_zero _) (Nat.ne_of_lt (Nat.lt_succ_self _)) hyz hx hz h
local macro_rules | `(tactic| walk_at "execs cons") => `(tactic| ((with_reducible refine wpAny_execs_cons ?_); (try dsimp only)))
local macro_rules | `(tactic| walk_at "compareOp In str str") => `(tactic| (refine Hold.mk ?_))
local macro_rules | `(tactic| walk_at "call builtin:str.replace") => `(tactic| (refine Hold.mk ?_))
theorem esc0 {w : World} {mean : ExcName → Option Value} {mg mb : Str → Option Value} {news : List (Addr × Obj)} {tn : Tok} {dp un : Nat} {gd : Option (List Code)} {cn : Str} {cs : Scope} {a : Addr} {ccd : Value} {cl : List (Str × Addr)} {outer : List Env} {A₀ : Around} {base h₀ : Heap} {L : Addr} {m : Str → Option Value} {s : Shared} {Q E : Value → Shared → Prop} :
   Pre w mean mg mb cs A₀ outer base h₀ L m news s.heap dp un 3 24 ((∀ (t : Tok) (h' : Heap) (tk' : Nat), Fr h₀ L h' m → News h₀ L h' news → Q (.str (Str.ofString "&lt;") t) { s with heap := h', toks := tk' }) →
    wpAny (model PW w) (ktrTop dp un gd cn cs L a ccd cl outer) (call (.ref 221) [.str (Str.ofString "<") tn]) Q E s) := by
  intro B F X N T hk hd hu hret
  refine wpAny_call ?_
  k_with_none
  k_dflt cell_enter
  (k_steps; repeat' (refine Hold.out ?_; (try dsimp only); first | (refine in_lit false (by decide +kernel) ?_; k_steps) | (refine in_lit true (by decide +kernel) ?_; k_steps) | (refine replace_lit (Str.ofString "&lt;") (by decide +kernel) (by decide +kernel) (by decide +kernel) (by decide +kernel) ?_; intro _ _; k_steps)))
  all_goals (exact hret _ _ _ (by k_asm) (by k_asm))
theorem esc1 {w : World} {mean : ExcName → Option Value} {mg mb : Str → Option Value} {news : List (Addr × Obj)} {tn : Tok} {dp un : Nat} {gd : Option (List Code)} {cn : Str} {cs : Scope} {a : Addr} {ccd : Value} {cl : List (Str × Addr)} {outer : List Env} {A₀ : Around} {base h₀ : Heap} {L : Addr} {m : Str → Option Value} {s : Shared} {Q E : Value → Shared → Prop} :
   Pre w mean mg mb cs A₀ outer base h₀ L m news s.heap dp un 3 24 ((∀ (t : Tok) (h' : Heap) (tk' : Nat), Fr h₀ L h' m → News h₀ L h' news → Q (.str (Str.ofString "&gt;") t) { s with heap := h', toks := tk' }) →
    wpAny (model PW w) (ktrTop dp un gd cn cs L a ccd cl outer) (call (.ref 221) [.str (Str.ofString ">") tn]) Q E s) := by
  intro B F X N T hk hd hu hret
  refine wpAny_call ?_
  k_with_none
  k_dflt cell_enter
  (k_steps; repeat' (refine Hold.out ?_; (try dsimp only); first | (refine in_lit false (by decide +kernel) ?_; k_steps) | (refine in_lit true (by decide +kernel) ?_; k_steps) | (refine replace_lit (Str.ofString "&gt;") (by decide +kernel) (by decide +kernel) (by decide +kernel) (by decide +kernel) ?_; intro _ _; k_steps)))
  all_goals (exact hret _ _ _ (by k_asm) (by k_asm))
theorem esc2 {w : World} {mean : ExcName → Option Value} {mg mb : Str → Option Value} {news : List (Addr × Obj)} {tn : Tok} {dp un : Nat} {gd : Option (List Code)} {cn : Str} {cs : Scope} {a : Addr} {ccd : Value} {cl : List (Str × Addr)} {outer : List Env} {A₀ : Around} {base h₀ : Heap} {L : Addr} {m : Str → Option Value} {s : Shared} {Q E : Value → Shared → Prop} :
   Pre w mean mg mb cs A₀ outer base h₀ L m news s.heap dp un 3 24 ((∀ (t : Tok) (h' : Heap) (tk' : Nat), Fr h₀ L h' m → News h₀ L h' news → Q (.str (Str.ofString "&gt;") t) { s with heap := h', toks := tk' }) →
    wpAny (model PW w) (ktrTop dp un gd cn cs L a ccd cl outer) (call (.ref 235) [.str (Str.ofString ">") tn]) Q E s) := by
  intro B F X N T hk hd hu hret
  refine wpAny_call ?_
  k_with_none
  k_dflt cell_enter
  (k_steps; repeat' (refine Hold.out ?_; (try dsimp only); first | (refine in_lit false (by decide +kernel) ?_; k_steps) | (refine in_lit true (by decide +kernel) ?_; k_steps) | (refine replace_lit (Str.ofString "&gt;") (by decide +kernel) (by decide +kernel) (by decide +kernel) (by decide +kernel) ?_; intro _ _; k_steps)))
  all_goals (exact hret _ _ _ (by k_asm) (by k_asm))
theorem esc3 {w : World} {mean : ExcName → Option Value} {mg mb : Str → Option Value} {news : List (Addr × Obj)} {tn : Tok} {dp un : Nat} {gd : Option (List Code)} {cn : Str} {cs : Scope} {a : Addr} {ccd : Value} {cl : List (Str × Addr)} {outer : List Env} {A₀ : Around} {base h₀ : Heap} {L : Addr} {m : Str → Option Value} {s : Shared} {Q E : Value → Shared → Prop} :
   Pre w mean mg mb cs A₀ outer base h₀ L m news s.heap dp un 3 24 ((∀ (t : Tok) (h' : Heap) (tk' : Nat), Fr h₀ L h' m → News h₀ L h' news → Q (.str (Str.ofString "&lt;") t) { s with heap := h', toks := tk' }) →
    wpAny (model PW w) (ktrTop dp un gd cn cs L a ccd cl outer) (call (.ref 235) [.str (Str.ofString "<") tn]) Q E s) := by
  intro B F X N T hk hd hu hret
  refine wpAny_call ?_
  k_with_none
  k_dflt cell_enter
  (k_steps; repeat' (refine Hold.out ?_; (try dsimp only); first | (refine in_lit false (by decide +kernel) ?_; k_steps) | (refine in_lit true (by decide +kernel) ?_; k_steps) | (refine replace_lit (Str.ofString "&lt;") (by decide +kernel) (by decide +kernel) (by decide +kernel) (by decide +kernel) ?_; intro _ _; k_steps)))
  all_goals (exact hret _ _ _ (by k_asm) (by k_asm))
theorem esc4 {w : World} {mean : ExcName → Option Value} {mg mb : Str → Option Value} {news : List (Addr × Obj)} {tn : Tok} {dp un : Nat} {gd : Option (List Code)} {cn : Str} {cs : Scope} {a : Addr} {ccd : Value} {cl : List (Str × Addr)} {outer : List Env} {A₀ : Around} {base h₀ : Heap} {L : Addr} {m : Str → Option Value} {s : Shared} {Q E : Value → Shared → Prop} :
   Pre w mean mg mb cs A₀ outer base h₀ L m news s.heap dp un 3 24 ((∀ (t : Tok) (h' : Heap) (tk' : Nat), Fr h₀ L h' m → News h₀ L h' news → Q (.str (Str.ofString "&#10;") t) { s with heap := h', toks := tk' }) →
    wpAny (model PW w) (ktrTop dp un gd cn cs L a ccd cl outer) (call (.ref 228) [.str (Str.ofString "\n") tn]) Q E s) := by
  intro B F X N T hk hd hu hret
  refine wpAny_call ?_
  k_with_none
  k_dflt cell_enter
  (k_steps; repeat' (refine Hold.out ?_; (try dsimp only); first | (refine in_lit false (by decide +kernel) ?_; k_steps) | (refine in_lit true (by decide +kernel) ?_; k_steps) | (refine replace_lit (Str.ofString "&#10;") (by decide +kernel) (by decide +kernel) (by decide +kernel) (by decide +kernel) ?_; intro _ _; k_steps)))
  all_goals (exact hret _ _ _ (by k_asm) (by k_asm))
theorem esc5 {w : World} {mean : ExcName → Option Value} {mg mb : Str → Option Value} {news : List (Addr × Obj)} {tn : Tok} {dp un : Nat} {gd : Option (List Code)} {cn : Str} {cs : Scope} {a : Addr} {ccd : Value} {cl : List (Str × Addr)} {outer : List Env} {A₀ : Around} {base h₀ : Heap} {L : Addr} {m : Str → Option Value} {s : Shared} {Q E : Value → Shared → Prop} :
   Pre w mean mg mb cs A₀ outer base h₀ L m news s.heap dp un 3 24 ((∀ (t : Tok) (h' : Heap) (tk' : Nat), Fr h₀ L h' m → News h₀ L h' news → Q (.str (Str.ofString "&#13;") t) { s with heap := h', toks := tk' }) →
    wpAny (model PW w) (ktrTop dp un gd cn cs L a ccd cl outer) (call (.ref 228) [.str (Str.ofString "\r") tn]) Q E s) := by
  intro B F X N T hk hd hu hret
  refine wpAny_call ?_
  k_with_none
  k_dflt cell_enter
  (k_steps; repeat' (refine Hold.out ?_; (try dsimp only); first | (refine in_lit false (by decide +kernel) ?_; k_steps) | (refine in_lit true (by decide +kernel) ?_; k_steps) | (refine replace_lit (Str.ofString "&#13;") (by decide +kernel) (by decide +kernel) (by decide +kernel) (by decide +kernel) ?_; intro _ _; k_steps)))
  all_goals (exact hret _ _ _ (by k_asm) (by k_asm))
theorem esc6 {w : World} {mean : ExcName → Option Value} {mg mb : Str → Option Value} {news : List (Addr × Obj)} {tn : Tok} {dp un : Nat} {gd : Option (List Code)} {cn : Str} {cs : Scope} {a : Addr} {ccd : Value} {cl : List (Str × Addr)} {outer : List Env} {A₀ : Around} {base h₀ : Heap} {L : Addr} {m : Str → Option Value} {s : Shared} {Q E : Value → Shared → Prop} :
   Pre w mean mg mb cs A₀ outer base h₀ L m news s.heap dp un 3 24 ((∀ (t : Tok) (h' : Heap) (tk' : Nat), Fr h₀ L h' m → News h₀ L h' news → Q (.str (Str.ofString "&#xD;") t) { s with heap := h', toks := tk' }) →
    wpAny (model PW w) (ktrTop dp un gd cn cs L a ccd cl outer) (call (.ref 242) [.str (Str.ofString "\r") tn]) Q E s) := by
  intro B F X N T hk hd hu hret
  refine wpAny_call ?_
  k_with_none
  k_dflt cell_enter
  (k_steps; repeat' (refine Hold.out ?_; (try dsimp only); first | (refine in_lit false (by decide +kernel) ?_; k_steps) | (refine in_lit true (by decide +kernel) ?_; k_steps) | (refine replace_lit (Str.ofString "&#xD;") (by decide +kernel) (by decide +kernel) (by decide +kernel) (by decide +kernel) ?_; intro _ _; k_steps)))
  all_goals (exact hret _ _ _ (by k_asm) (by k_asm))
theorem esc7 {w : World} {mean : ExcName → Option Value} {mg mb : Str → Option Value} {news : List (Addr × Obj)} {tn : Tok} {dp un : Nat} {gd : Option (List Code)} {cn : Str} {cs : Scope} {a : Addr} {ccd : Value} {cl : List (Str × Addr)} {outer : List Env} {A₀ : Around} {base h₀ : Heap} {L : Addr} {m : Str → Option Value} {s : Shared} {Q E : Value → Shared → Prop} :
   Pre w mean mg mb cs A₀ outer base h₀ L m news s.heap dp un 3 24 ((∀ (t : Tok) (h' : Heap) (tk' : Nat), Fr h₀ L h' m → News h₀ L h' news → Q (.str (Str.ofString "&#xA;") t) { s with heap := h', toks := tk' }) →
    wpAny (model PW w) (ktrTop dp un gd cn cs L a ccd cl outer) (call (.ref 242) [.str (Str.ofString "\n") tn]) Q E s) := by
  intro B F X N T hk hd hu hret
  refine wpAny_call ?_
  k_with_none
  k_dflt cell_enter
  (k_steps; repeat' (refine Hold.out ?_; (try dsimp only); first | (refine in_lit false (by decide +kernel) ?_; k_steps) | (refine in_lit true (by decide +kernel) ?_; k_steps) | (refine replace_lit (Str.ofString "&#xA;") (by decide +kernel) (by decide +kernel) (by decide +kernel) (by decide +kernel) ?_; intro _ _; k_steps)))
  all_goals (exact hret _ _ _ (by k_asm) (by k_asm))
end
-- C5 (1)
section
open PySem PySem.W PyProof.Rows
def markA (n : Int) : Str := if n = 0 then Str.ofString "&lt;" else if n = 1 then Str.ofString "&gt;" else if n = 2 then Str.ofString "&#10;" else Str.ofString "&#xD;"
def markB (n : Int) : Str := if n = 0 then Str.ofString "&gt;" else if n = 1 then Str.ofString "&lt;" else if n = 2 then Str.ofString "&#13;" else Str.ofString "&#xA;"
local macro_rules | `(tactic| walk_at "call ref") => `(tactic| (refine Hold.mk ?_))
theorem mark0 {n : Int} (h : n = 0) : markA n = Str.ofString "&lt;" ∧ markB n = Str.ofString "&gt;" := by simp [markA, markB, h]
theorem mark1 {n : Int} (h : n = 1) : markA n = Str.ofString "&gt;" ∧ markB n = Str.ofString "&lt;" := by simp [markA, markB, h]
theorem mark2 {n : Int} (h : n = 2) : markA n = Str.ofString "&#10;" ∧ markB n = Str.ofString "&#13;" := by simp [markA, markB, h]
theorem mark3 {n : Int} (h : ¬ n = 0) (h1 : ¬ n = 1) (h2 : ¬ n = 2) : markA n = Str.ofString "&#xD;" ∧ markB n = Str.ofString "&#xA;" := by simp [markA, markB, h, h1, h2]
theorem marks_use {w : World} {mean : ExcName → Option Value} {mg mb : Str → Option Value} {news : List (Addr × Obj)} {n : Int} {tn : Tok} {dp un : Nat} {gd : Option (List Code)} {cn : Str} {cs : Scope} {a : Addr} {ccd : Value} {cl : List (Str × Addr)} {outer : List Env} {A₀ : Around} {base h₀ : Heap} {L : Addr} {m : Str → Option Value} {s : Shared} {Q E : Value → Shared → Prop}
   (hn : 0 ≤ n) (hn2 : n < 4) :
   Pre w mean mg mb cs A₀ outer base h₀ L m news s.heap dp un 320 9500 ((∀ (D : Addr) (t u : Tok) (h' : Heap) (tk' : Nat), Fr h₀ L h' m → News h₀ L h' ((D, listOf #[.str (markA n) t, .str (markB n) u] 0) :: news) → (∀ p ∈ news, p.1 < D) → Q (.ref D) { s with heap := h', toks := tk' }) →
    wpAny (model PW w) (ktrTop dp un gd cn cs L a ccd cl outer) (call (.ref 254) [.int n tn]) Q E s) := by
  intro B F X N T hk hd hu hret
  refine wpAny_call ?_
  k_with_none
  k_dflt cell_enter
  (k_steps; repeat' (refine Hold.out ?_; (first | ((with_reducible show wpAny _ _ (call (Value.ref 221) [Value.str (Str.ofString "<") _]) _ _ _); rename Fr _ _ _ _ => zF; rename News _ _ _ _ => zN; refine esc0 (by k_asm) zF (by k_asm) zN (by k_asm) (by first | exact rfl | assumption) (by ktr_room) (by ktr_units) ?_; clear zF zN; intro _ _ _ _ _; (try dsimp only)) | ((with_reducible show wpAny _ _ (call (Value.ref 221) [Value.str (Str.ofString ">") _]) _ _ _); rename Fr _ _ _ _ => zF; rename News _ _ _ _ => zN; refine esc1 (by k_asm) zF (by k_asm) zN (by k_asm) (by first | exact rfl | assumption) (by ktr_room) (by ktr_units) ?_; clear zF zN; intro _ _ _ _ _; (try dsimp only)) | ((with_reducible show wpAny _ _ (call (Value.ref 235) [Value.str (Str.ofString ">") _]) _ _ _); rename Fr _ _ _ _ => zF; rename News _ _ _ _ => zN; refine esc2 (by k_asm) zF (by k_asm) zN (by k_asm) (by first | exact rfl | assumption) (by ktr_room) (by ktr_units) ?_; clear zF zN; intro _ _ _ _ _; (try dsimp only)) | ((with_reducible show wpAny _ _ (call (Value.ref 235) [Value.str (Str.ofString "<") _]) _ _ _); rename Fr _ _ _ _ => zF; rename News _ _ _ _ => zN; refine esc3 (by k_asm) zF (by k_asm) zN (by k_asm) (by first | exact rfl | assumption) (by ktr_room) (by ktr_units) ?_; clear zF zN; intro _ _ _ _ _; (try dsimp only)) | ((with_reducible show wpAny _ _ (call (Value.ref 228) [Value.str (Str.ofString "\n") _]) _ _ _); rename Fr _ _ _ _ => zF; rename News _ _ _ _ => zN; refine esc4 (by k_asm) zF (by k_asm) zN (by k_asm) (by first | exact rfl | assumption) (by ktr_room) (by ktr_units) ?_; clear zF zN; intro _ _ _ _ _; (try dsimp only)) | ((with_reducible show wpAny _ _ (call (Value.ref 228) [Value.str (Str.ofString "\r") _]) _ _ _); rename Fr _ _ _ _ => zF; rename News _ _ _ _ => zN; refine esc5 (by k_asm) zF (by k_asm) zN (by k_asm) (by first | exact rfl | assumption) (by ktr_room) (by ktr_units) ?_; clear zF zN; intro _ _ _ _ _; (try dsimp only)) | ((with_reducible show wpAny _ _ (call (Value.ref 242) [Value.str (Str.ofString "\r") _]) _ _ _); rename Fr _ _ _ _ => zF; rename News _ _ _ _ => zN; refine esc6 (by k_asm) zF (by k_asm) zN (by k_asm) (by first | exact rfl | assumption) (by ktr_room) (by ktr_units) ?_; clear zF zN; intro _ _ _ _ _; (try dsimp only)) | ((with_reducible show wpAny _ _ (call (Value.ref 242) [Value.str (Str.ofString "\n") _]) _ _ _); rename Fr _ _ _ _ => zF; rename News _ _ _ _ => zN; refine esc7 (by k_asm) zF (by k_asm) zN (by k_asm) (by first | exact rfl | assumption) (by ktr_room) (by ktr_units) ?_; clear zF zN; intro _ _ _ _ _; (try dsimp only))); k_steps))
  all_goals (
    (first
      | (rename n = 0 => hc0; obtain ⟨e1, e2⟩ := mark0 hc0)
      | (rename n = 1 => hc1; obtain ⟨e1, e2⟩ := mark1 hc1)
      | (rename n = 2 => hc2; obtain ⟨e1, e2⟩ := mark2 hc2)
      | (rename n ≠ 0 => hc0; rename n ≠ 1 => hc1; rename n ≠ 2 => hc2; obtain ⟨e1, e2⟩ := mark3 hc0 hc1 hc2))
    rw [e1, e2] at hret
    exact hret _ _ _ _ _ (by k_asm) (by k_asm) (by assumption))
end
local macro_rules | `(tactic| walk_at "exec Assign") => `(tactic| ((fail_if_success (refine gp_guard (by assumption) ?_)); refine gen_post1 ?_; intro _ _))
local macro_rules | `(tactic| walk_at "exec AugAssign") => `(tactic| ((fail_if_success (refine gp_guard (by assumption) ?_)); refine gen_post1 ?_; intro _ _))
local macro_rules | `(tactic| walk_at "exec Expr") => `(tactic| ((fail_if_success (refine gp_guard (by assumption) ?_)); refine gen_post1 ?_; intro _ _))
local macro_rules | `(tactic| walk_at "exec If") => `(tactic| ((fail_if_success (refine gp_guard (by assumption) ?_)); refine gen_post1 ?_; intro _ _))
-- C2 (2)
section
open PySem PySem.W PyProof.Rows
def apL (n : Nat) : List Nat := if h : n = 0 then [] else apL (n / 16) ++ [65 + n % 16]
termination_by n
decreasing_by omega
def cds (b : Array UInt8) : List Nat := b.toList.map UInt8.toNat

theorem apL_succ {n : Nat} (h : n ≠ 0) : apL n = apL (n / 16) ++ [65 + n % 16] := by
  rw [apL]; simp [h]
theorem apL_zero : apL 0 = [] := by rw [apL]; simp
theorem cds_append (a b : Array UInt8) : cds (a ++ b) = cds a ++ cds b := by simp [cds]
def AP : Array UInt8 := #[65, 66, 67, 68, 69, 70, 71, 72, 73, 74, 75, 76, 77, 78, 79, 80]
theorem cds_pick (r : Nat) (h : r < 16) : cds (KBy.picked AP (some (r : Int)) (some ((r : Int) + 1))) = [65 + r] := by
  have : ∀ r : Fin 16, cds (KBy.picked AP (some (r.1 : Int)) (some ((r.1 : Int) + 1))) = [65 + r.1] := by decide +kernel
  exact this ⟨r, h⟩
theorem size_cds (b : Array UInt8) : (cds b).length = b.size := by simp [cds]
theorem ap_start (n : Int) (h : (apL n.natAbs).length ≤ 16) : (0 ≤ if n < 0 then -n else n) ∧ apL (if n < 0 then -n else n).toNat ++ cds #[] = apL n.natAbs := by
  refine ⟨by split <;> omega, ?_⟩
  have : (if n < 0 then -n else n).toNat = n.natAbs := by split <;> omega
  rw [this]; simp [cds]
theorem ap_done {num : Int} {l : List Nat} {N : Nat} (h0 : num = 0) (h : apL num.toNat ++ l = apL N) : l = apL N := by
  subst h0
  rw [← h]
  show l = apL 0 ++ l
  rw [apL_zero]; rfl
theorem ap_less {num : Int} (h0 : 0 ≤ num) (hne : ¬ num = 0) : (num.fdiv 16).toNat < num.toNat := by
  have e1 : num.fdiv 16 = num / 16 := Int.fdiv_eq_ediv_of_nonneg _ (by decide)
  omega
theorem ap_turn {num : Int} {val p : Array UInt8} {N : Nat} (h0 : 0 ≤ num) (hne : ¬ num = 0) (h : apL num.toNat ++ cds val = apL N)
    (hp : p = KBy.picked AP (some (num.fmod 16)) (some (num.fmod 16 + 1))) : 0 ≤ num.fdiv 16 ∧ apL (num.fdiv 16).toNat ++ cds (p ++ val) = apL N := by
  have e1 : num.fdiv 16 = num / 16 := Int.fdiv_eq_ediv_of_nonneg _ (by decide)
  have e2 : num.fmod 16 = num % 16 := Int.fmod_eq_emod_of_nonneg _ (by decide)
  obtain ⟨k, rfl⟩ := Int.eq_ofNat_of_zero_le h0
  have hk : k ≠ 0 := by rintro rfl; exact hne rfl
  refine ⟨by omega, ?_⟩
  have e3 : ((k : Int) % 16) = ((k % 16 : Nat) : Int) := by omega
  have e4 : ((k : Int).fdiv 16).toNat = k / 16 := by omega
  rw [hp, cds_append, e2, e3, cds_pick _ (Nat.mod_lt _ (by decide)), e4, ← List.append_assoc, ← apL_succ hk, ← h]
  rfl
local macro_rules | `(tactic| walk_at "subscriptTail") => `(tactic| (refine Hold.mk ?_))
theorem size_pick (a b : Option Int) : (KBy.picked AP a b).size ≤ 16 := KBc.size_picked_le AP a b
theorem ap_size {l : List Nat} {val : Array UInt8} {N : Nat} (h : l ++ cds val = apL N) (hN : (apL N).length ≤ 16) : val.size ≤ 16 := by
  rw [← h, List.length_append, size_cds] at hN; omega
local macro_rules | `(tactic| walk_at "binaryOp Add bytes bytes") => `(tactic| (refine Hold.mk ?_))
theorem int2ap_use {w : World} {mean : ExcName → Option Value} {mg mb : Str → Option Value} {news : List (Addr × Obj)} {n : Int} {tn : Tok} {dp un : Nat} {gd : Option (List Code)} {cn : Str} {cs : Scope} {a : Addr} {ccd : Value} {cl : List (Str × Addr)} {outer : List Env} {A₀ : Around} {base h₀ : Heap} {L : Addr} {m : Str → Option Value} {s : Shared} {Q E : Value → Shared → Prop}
   (hn : (apL n.natAbs).length ≤ 16) (hn2 : n.natAbs < 2 ^ 62) :
   Pre w mean mg mb cs A₀ outer base h₀ L m news s.heap dp un 1 8 ((∀ (b : Array UInt8) (t : Tok) (h' : Heap) (tk' : Nat), cds b = apL n.natAbs → Fr h₀ L h' m → News h₀ L h' news → Q (.bytes b t) { s with heap := h', toks := tk' }) →
    wpAny (model PW w) (ktrTop dp un gd cn cs L a ccd cl outer) (call (.ref 193) [.int n tn]) Q E s) := by
  intro B F X N T hk hd hu hret
  refine wpAny_call ?_
  k_dflt cell_enter
  k_with "state" => (first | exact ap_start _ (by assumption) | exact ap_turn (by assumption) (by assumption) (by assumption) rfl)
  k_with "measure" => exact ap_less (by assumption) (by assumption)
  k_with "exec While Name cons nil" => k_while (fun _ num val => 0 ≤ num ∧ apL num.toNat ++ cds val = apL n.natAbs) (fun _ num _ => num.toNat) "num" "val"
  (k_steps; repeat' (first | ((refine Hold.out ?_; first | ((with_reducible show wpAny _ _ (binaryOp _ (Value.bytes _ _) (Value.bytes _ _)) _ _ _); (refine KBy.add_bytes (Nat.le_trans (Nat.add_le_add (KBc.size_picked_le _ _ _) (ap_size (by assumption) (by assumption))) (by decide)) ?_; intro _ _)) | ((with_reducible show wpAny _ _ (subscriptTail _ _ _ _) _ _ _); (k_here; (with_reducible show wpAny _ _ (subscriptTail _ (Expr.Slice _ _ none _) (Value.bytes _ _) (Value.ref _)) _ _ _); (with_reducible rename Fr _ _ _ _ => zF'); (with_reducible rename News _ _ _ _ => zN'); (refine KBc.slice_K (s := ⟨_, _, _, _, _⟩) zF' zN' rfl (by constructor) (by constructor) (by decide) ?_); intro _ _ _ _ _ _))); k_steps) | (refine gp_use (by assumption) ?_; (try dsimp only); k_steps)))
  all_goals first
    | (refine hret _ _ _ _ ?_ (by k_asm) (by k_asm); exact ap_done (by assumption) (by assumption))

end
-- C3 (6)
section
open PySem PySem.W PyProof.Rows
def apS (n : Nat) : Str := ⟨(apL n).toArray⟩

section
open PySem.Spec PySem.Calls LCg
variable {prog : Program} {w : World} {A : Around} {E : Value → Shared → Prop} {s : Shared} {h₀ : Heap} {L : Addr} {m : Str → Option Value} {env : Env}
def SrcB (prog : Program) (w : World) (A : Around) (h₀ : Heap) (L : Addr) (m : Str → Option Value) (env : Env) (elt : Expr) (x : Str) (scope : Scope) (cl : List (Str × Addr)) (Fin : Shared → List Value → List (Addr × Obj) → Prop) (xv : Value) (s₁ : Shared) : Prop :=
  ∃ (b : Array UInt8) (t : Tok) (news : List (Addr × Obj)), xv = .bytes b t ∧ A.handled = none ∧ Fr h₀ L s₁.heap m ∧ News h₀ L s₁.heap news ∧ b.size ≤ sizeLine ∧
    ∀ s₂ : Shared, (∃ h, s₂ = { s₁ with heap := h }) → CompRest prog w A h₀ L m env elt x scope cl s₂ (fun _ => True) (fun i v => ∃ c u, b[i]? = some c ∧ v = .int (c.toNat : Int) u) (Fin s₂) b.size 0 [] news
theorem ListComp_B {elt iter : Expr} {x : Str} {px : Pos} {scope : Scope} {cl : List (Str × Addr)} {pos : Pos} {Q : Value → Shared → Prop} (_F₀ : Fr h₀ L s.heap m)
    (hclos : closureFor scope env = pure cl) (hcell : ∀ y ∈ scope.names, y.2 ≠ .cell) (hkind : scope.kind = .function)
    (hnames : ∀ y ∈ scope.names, y.2 = .local → scope.names.lookup y.1 = some .local) (hx : scope.names.lookup x = some .local)
    (h : wpAny (model prog w) A (eval iter env) (SrcB prog w A h₀ L m env elt x scope cl (fun s₂ => FinE h₀ L m s₂ Q)) E s)
    (hs : ∀ x, foldedSetIterable iter env x = pure x := by intro _; rfl) :
    wpAny (model prog w) A (eval (.ListComp elt [⟨.Name x px, iter, [], 0⟩] scope pos) env) Q E s := by
  rw [eval_ListComp]
  refine wpAny_comprehension_free (use := none) rfl hs hclos hkind hnames (wpAny_mono h (fun xv s₁ h₁ => ?_) fun _ _ e => e)
  obtain ⟨b, t, news, rfl, hh, F, N, hsz, R⟩ := h₁
  refine KBw.pyIter_bytes ?_
  have up : ∀ a o, s₁.heap.get? a = some o → (s₁.heap.push { cls := .type "bytes_iterator", data := .fields #[.bytes b t, .int 0 0] }).get? a = some o := fun a o e => Heap.get?_push_of_some _ e
  refine block_U (KBw.walks hh s₁.heap.objs.size b t) hsz (fun i h st => by obtain ⟨o, e, _⟩ := st; exact ⟨o, e⟩) (fun i h h' o nw st e e' _ _ _ => by obtain ⟨o', q, r⟩ := st; rw [e] at q; cases q; exact ⟨o, e', r⟩) hcell hkind hx ⟨_, Heap.get?_push_size _ rfl, rfl, rfl⟩ (fun c hc => ?_)
    (F.keeps up) (N.grown up) (Nat.ne_of_lt F.ns.lt) (next_is_new F) (fun p hp => Nat.ne_of_lt (Heap.lt_size (N p hp).1)) trivial (R _ ⟨_, rfl⟩) ?_
  · rw [List.mem_singleton.mp hc]
    show s₁.heap.objs.size < (s₁.heap.push _).objs.size
    rw [Heap.size_push]; exact Nat.lt_succ_self _
  · intro D C h tk m' ys news' F' N' o1 hn hC₀ hD₀ hCL hDL hCD offC fin
    refine ⟨m', hn, fun h'' hs'' => fin D h'' tk (F'.change hs'' hCL hC₀) (fun p hp => ?_) o1⟩
    refine ⟨hs''.extBut _ _ ?_ (N' p hp).1, (N' p hp).2⟩
    rcases List.mem_cons.mp hp with rfl | hp
    · exact Ne.symm hCD
    · exact offC p hp
end


open PySem.Spec PySem.Calls LCg in
theorem compRest_ind {prog : Program} {w : World} {A : Around} {s : Shared} {h₀ : Heap} {L : Addr} {m : Str → Option Value} {env : Env} {elt : Expr} {x : Str} {scope : Scope} {cl : List (Str × Addr)} {S : List (Addr × Obj) → Prop} {P : Nat → Value → Prop} {Fin : List Value → List (Addr × Obj) → Prop} {n : Nat} {news : List (Addr × Obj)}
    (J : Nat → List Value → Prop) (h0 : J 0 [])
    (step : ∀ i ys v I oI C oC D m₂ h tk (E' : Value → Shared → Prop), i < n → J i ys → P i v → NsObj oC m₂ → m₂ x = some v → Fr h₀ L h m → News h₀ L h ((I, oI) :: (C, oC) :: (D, lst ys) :: news) → Off3 I C D news → ((@Ne Nat I C) ∧ (@Ne Nat I D) ∧ (@Ne Nat C D)) →
      wpAny (model prog w) A (eval elt (compEnvC scope cl C env)) (CompEnd h₀ L m { s with heap := h, toks := tk } I oI C oC D (lst ys) S (fun y news' => news' = news ∧ J (i + 1) (ys ++ [y]))) E' { s with heap := h, toks := tk })
    (fin : ∀ ys, J n ys → Fin ys news) : CompRest prog w A h₀ L m env elt x scope cl s S P Fin n 0 [] news := by
  have H : ∀ k i ys, i + k = n → J i ys → CompRest prog w A h₀ L m env elt x scope cl s S P Fin k i ys news := by
    intro k
    induction k with
    | zero => intro i ys hi hJ; exact .zero (fin ys (by rw [Nat.add_zero] at hi; exact hi ▸ hJ))
    | succ k ih =>
      intro i ys hi hJ
      refine .succ fun v I oI C oC D m₂ h tk E' hP hC hx F N off ne => ?_
      refine wpAny_mono (step i ys v I oI C oC D m₂ h tk E' (by omega) hJ hP hC hx F N off ne) (fun y s' hy => ?_) fun _ _ e => e
      obtain ⟨h', tk', news', e, F', N', o', hS, rfl, hJ'⟩ := hy
      exact ⟨h', tk', _, e, F', N', o', hS, ih (i + 1) _ (by omega) hJ'⟩
  exact H n 0 [] (Nat.zero_add n) h0
theorem uint8_le (c : UInt8) : (c.toNat : Int) ≤ 1114111 := by have := c.toNat_lt; omega
theorem chars_sum (l : List Nat) : ((l.map fun c => (⟨#[c]⟩ : Str)).map (·.length)).sum = l.length := by
  induction l with
  | nil => rfl
  | cons a r ih => simp only [List.map_cons, List.sum_cons, List.length_cons, ih]; show 1 + r.length = r.length + 1; omega
theorem join_short {N : Nat} (h : (apL N).length ≤ 16) : ((((apL N).take (apL N).length).map fun c => (⟨#[c]⟩ : Str)).map (·.length)).sum + (((apL N).take (apL N).length).map fun c => (⟨#[c]⟩ : Str)).length * (Str.ofString "").length ≤ 16777216 := by
  rw [chars_sum, List.take_length]
  have : (Str.ofString "").length = 0 := by decide +kernel
  rw [this]; omega
theorem chars_step {ys : List Value} {b : Array UInt8} {N i : Nat} {c : UInt8} {t : Tok} (hJ : StrsAre ys (((apL N).take i).map fun c => (⟨#[c]⟩ : Str))) (hb : cds b = apL N) (hc : b[i]? = some c) :
    StrsAre (ys ++ [.str ⟨#[((c.toNat : Int)).toNat]⟩ t]) (((apL N).take (i + 1)).map fun c => (⟨#[c]⟩ : Str)) := by
  have h : (apL N)[i]? = some c.toNat := by
    rw [← hb]
    simp [cds, hc]
  rw [List.take_add_one, h, List.map_append]
  exact StrsAre.append' hJ (.cons _ _ .nil)
theorem join_apS (N : Nat) : Txt.join (Str.ofString "") (((apL N).take (apL N).length).map fun c => (⟨#[c]⟩ : Str)) = apS N := by
  rw [List.take_length, show Str.ofString "" = (⟨#[]⟩ : Str) from by decide +kernel]
  exact (beq_iff_eq.mp (join_plain_closes _ _)).trans (join_nil_signs (apS N))
theorem bsize_ok {b : Array UInt8} {N : Nat} (h : cds b = apL N) (hN : (apL N).length ≤ 16) : b.size ≤ sizeLine := by
  rw [← size_cds, h, sizeLine_eq]; omega
local macro_rules | `(tactic| walk_at "call ref") => `(tactic| (refine Hold.mk ?_))
local macro_rules | `(tactic| walk_at "eval ListComp") => `(tactic| (refine Hold.mk ?_))
local macro_rules | `(tactic| walk_at "SrcB") => `(tactic| (refine Hold.mk ?_))
local macro_rules | `(tactic| walk_at "call builtin:chr") => `(tactic| (refine Hold.mk ?_))
local macro_rules | `(tactic| walk_at "CompEnd") => `(tactic| (refine Hold.mk ?_))
local macro_rules | `(tactic| walk_at "call builtin:str.join") => `(tactic| (refine Hold.mk ?_))
theorem lawword_use {w : World} {mean : ExcName → Option Value} {mg mb : Str → Option Value} {news : List (Addr × Obj)} {n : Int} {tn : Tok} {dp un : Nat} {gd : Option (List Code)} {cn : Str} {cs : Scope} {a : Addr} {ccd : Value} {cl : List (Str × Addr)} {outer : List Env} {A₀ : Around} {base h₀ : Heap} {L : Addr} {m : Str → Option Value} {s : Shared} {Q E : Value → Shared → Prop}
   (hn : (apL n.natAbs).length ≤ 16) (hn2 : n.natAbs < 2 ^ 62) :
   Pre w mean mg mb cs A₀ outer base h₀ L m news s.heap dp un 3 24 ((∀ (t : Tok) (h' : Heap) (tk' : Nat), Fr h₀ L h' m → News h₀ L h' news → Q (.str (apS n.natAbs) t) { s with heap := h', toks := tk' }) →
    wpAny (model PW w) (ktrTop dp un gd cn cs L a ccd cl outer) (call (.ref 247) [.int n tn]) Q E s) := by
  intro B F X N T hk hd hu hret
  refine wpAny_call ?_
  k_with_none
  k_dflt cell_enter
  (k_steps; repeat' (first | ((refine Hold.out ?_; first | (((try dsimp only); (with_reducible show wpAny _ _ (call (Value.builtin "str.join") _) _ _ _)); (refine join_list (News.isList (by assumption) (List.Mem.head _)) (by assumption) (join_short (by assumption)) ?_)) | ((with_reducible rename News _ _ _ _ => znE'; refine LCg.CompEnd.intro (by assumption) znE' _ (by (intro p hp; repeat' (first | exact hp | refine List.Mem.tail _ ?_))) (by assumption) trivial ⟨rfl, ?_⟩)) | (((try dsimp only); (with_reducible show wpAny _ _ (call (Value.builtin "chr") _) _ _ _)); (refine chr_of_range (Int.natCast_nonneg _) (uint8_le _) ?_)) | ((unfold SrcB; k_dflt (refine ⟨_, _, _, rfl, by rfl, by k_asm, by k_asm, bsize_ok (by assumption) (by assumption), ?_⟩); (intro zs2' zhs2'; obtain ⟨zg2', zhs2'⟩ := zhs2'; subst zhs2'))) | ((with_reducible show wpAny _ _ (eval (Expr.ListComp _ _ _ _) _) _ _ _); (k_here; k_dflt (refine ListComp_B (_F₀ := by k_asm) (by rfl) (by decide) (by rfl) (by decide) (by rfl) ?_))) | ((with_reducible show wpAny _ _ (call (Value.ref _) _) _ _ _); (k_here; k_dflt (refine' int2ap_use ?kn1 ?kn2 ?k1 ?k2 ?k3 ?k4 ?k5 ?kK ?kd ?ku ?_; (case kn1 => assumption); (case kn2 => assumption); (case k1 => k_asm); (case k2 => k_asm); (case k3 => k_asm); (case k4 => k_asm); (case k5 => k_asm); (case kK => first | exact rfl | assumption); (case kd => ktr_room); (case ku => ktr_units)); intro b' zt' zh' ztk' zhb' zF' zN'; (try dsimp only); (try k_fold)))); k_steps) | (refine gp_use (by assumption) ?_; (try dsimp only); k_steps)))
  refine compRest_ind (fun i ys => StrsAre ys (((apL n.natAbs).take i).map fun c => (⟨#[c]⟩ : Str))) .nil ?_ ?_
  · intro i ys v I oI C oC D m₂ h tk E' hi hJ hP hC hx F' N' off ne
    obtain ⟨c, u, hc, rfl⟩ := hP
    have e := fun t => chars_step (t := t) hJ ‹cds _ = apL n.natAbs› hc
    (k_steps; repeat' (first | ((refine Hold.out ?_; first | (((try dsimp only); (with_reducible show wpAny _ _ (call (Value.builtin "str.join") _) _ _ _)); (refine join_list (News.isList (by assumption) (List.Mem.head _)) (by assumption) (join_short (by assumption)) ?_)) | ((with_reducible rename News _ _ _ _ => znE'; refine LCg.CompEnd.intro (by assumption) znE' _ (by (intro p hp; repeat' (first | exact hp | refine List.Mem.tail _ ?_))) (by assumption) trivial ⟨rfl, ?_⟩)) | (((try dsimp only); (with_reducible show wpAny _ _ (call (Value.builtin "chr") _) _ _ _)); (refine chr_of_range (Int.natCast_nonneg _) (uint8_le _) ?_)) | ((unfold SrcB; k_dflt (refine ⟨_, _, _, rfl, by rfl, by k_asm, by k_asm, bsize_ok (by assumption) (by assumption), ?_⟩); (intro zs2' zhs2'; obtain ⟨zg2', zhs2'⟩ := zhs2'; subst zhs2'))) | ((with_reducible show wpAny _ _ (eval (Expr.ListComp _ _ _ _) _) _ _ _); (k_here; k_dflt (refine ListComp_B (_F₀ := by k_asm) (by rfl) (by decide) (by rfl) (by decide) (by rfl) ?_))) | ((with_reducible show wpAny _ _ (call (Value.ref _) _) _ _ _); (k_here; k_dflt (refine' int2ap_use ?kn1 ?kn2 ?k1 ?k2 ?k3 ?k4 ?k5 ?kK ?kd ?ku ?_; (case kn1 => assumption); (case kn2 => assumption); (case k1 => k_asm); (case k2 => k_asm); (case k3 => k_asm); (case k4 => k_asm); (case k5 => k_asm); (case kK => first | exact rfl | assumption); (case kd => ktr_room); (case ku => ktr_units)); intro b' zt' zh' ztk' zhb' zF' zN'; (try dsimp only); (try k_fold)))); k_steps) | (refine gp_use (by assumption) ?_; (try dsimp only); k_steps)))
    exact e _
  · intro ys hy
    rw [← size_cds, ‹cds _ = _›] at hy
    (k_steps; repeat' (first | ((refine Hold.out ?_; first | (((try dsimp only); (with_reducible show wpAny _ _ (call (Value.builtin "str.join") _) _ _ _)); (refine join_list (News.isList (by assumption) (List.Mem.head _)) (by assumption) (join_short (by assumption)) ?_)) | ((with_reducible rename News _ _ _ _ => znE'; refine LCg.CompEnd.intro (by assumption) znE' _ (by (intro p hp; repeat' (first | exact hp | refine List.Mem.tail _ ?_))) (by assumption) trivial ⟨rfl, ?_⟩)) | (((try dsimp only); (with_reducible show wpAny _ _ (call (Value.builtin "chr") _) _ _ _)); (refine chr_of_range (Int.natCast_nonneg _) (uint8_le _) ?_)) | ((unfold SrcB; k_dflt (refine ⟨_, _, _, rfl, by rfl, by k_asm, by k_asm, bsize_ok (by assumption) (by assumption), ?_⟩); (intro zs2' zhs2'; obtain ⟨zg2', zhs2'⟩ := zhs2'; subst zhs2'))) | ((with_reducible show wpAny _ _ (eval (Expr.ListComp _ _ _ _) _) _ _ _); (k_here; k_dflt (refine ListComp_B (_F₀ := by k_asm) (by rfl) (by decide) (by rfl) (by decide) (by rfl) ?_))) | ((with_reducible show wpAny _ _ (call (Value.ref _) _) _ _ _); (k_here; k_dflt (refine' int2ap_use ?kn1 ?kn2 ?k1 ?k2 ?k3 ?k4 ?k5 ?kK ?kd ?ku ?_; (case kn1 => assumption); (case kn2 => assumption); (case k1 => k_asm); (case k2 => k_asm); (case k3 => k_asm); (case k4 => k_asm); (case k5 => k_asm); (case kK => first | exact rfl | assumption); (case kd => ktr_room); (case ku => ktr_units)); intro b' zt' zh' ztk' zhb' zF' zN'; (try dsimp only); (try k_fold)))); k_steps) | (refine gp_use (by assumption) ?_; (try dsimp only); k_steps)))
    rw [join_apS]
    refine hret _ _ _ (by k_asm) ?_
    rename News _ _ _ _ => nE'
    exact cb_drop nE' (by intro p hp; repeat' (first | exact hp | refine List.Mem.tail _ ?_))
end
-- L0 (0)
section
open PySem PySem.W PyProof.Rows
def S (l : List Nat) : Str := ⟨l.toArray⟩
theorem S_len (l : List Nat) : (S l).length = l.length := by simp [S, Str.length]
theorem S_inj {l r : List Nat} (h : S l = S r) : l = r := by simpa [S] using h
theorem slice_text (x : Str) (l u : Option Int) : Txt.slice x l u = StrLaws.sliceText x l u := by rfl
theorem slice_nn (l : List Nat) : Txt.slice (S l) none none = S l := by
  rw [slice_text]
  unfold StrLaws.sliceText
  rw [StrLaws.sliceIdx_none_lo, StrLaws.sliceIdx_none_hi]
  have h : (Builtin.Str.strSliceIndices (some 0) (some ((S l).length : Int)) 1 (S l).length).length = (S l).length := by
    have := StrLaws.strSliceIndices_plain (a := 0) (b := (S l).length) (len := (S l).length) (Nat.zero_le _) (Nat.le_refl _)
    have h0 : ((0 : Nat) : Int) = 0 := rfl
    rw [h0] at this
    rw [this]; simp
  rw [h]; simp
theorem slice_sn {l : List Nat} {i : Int} (h0 : 0 ≤ i) (h1 : i ≤ l.length) : Txt.slice (S l) (some i) none = S (l.drop i.toNat) := by
  rw [slice_text, StrLaws.sliceText_from ⟨h0, by simpa [S] using h1⟩]
  show (⟨((l.drop i.toNat).take (((l.length : Nat) : Int) - i).toNat).toArray⟩ : Str) = ⟨(l.drop i.toNat).toArray⟩
  rw [List.take_of_length_le]
  rw [List.length_drop]; omega
theorem slice_ns {l : List Nat} {j : Int} (h0 : j < 0) (h1 : -(l.length : Int) ≤ j) : Txt.slice (S l) none (some j) = S (l.take (l.length - (-j).toNat)) := by
  rw [slice_text, StrLaws.sliceText_to_neg h0 (by rw [S_len]; exact h1), S_len]
  show (⟨((l.drop 0).take (j + l.length - 0).toNat).toArray⟩ : Str) = ⟨(l.take (l.length - (-j).toNat)).toArray⟩
  rw [List.drop_zero, show (j + (l.length : Int) - 0).toNat = l.length - (-j).toNat from by omega]
section
variable {prog : Program} {w : World} {A : Around} {E : Value → Shared → Prop} {s : Shared} {h₀ : Heap} {L : Addr} {m : Str → Option Value} {news : List (Addr × Obj)} {l : List Nat} {t u : Tok}
theorem truthy_S {Q : Bool → Shared → Prop} (hne : l ≠ []) (hfit : l.length ≤ 1000) (h : Q true { s with toks := s.toks + 1 + 1 }) : wpAny (model prog w) A (truthy (.str (S l) t)) Q E s := by
  refine P.truthy_str (by rw [S_len]; omega) ?_
  have : l.length ≠ 0 := fun e => hne (List.length_eq_zero_iff.mp e)
  rw [S_len, show ((l.length : Int) != 0) = true from bne_iff_ne.mpr (by omega)]
  exact h
theorem len_S {Q : Value → Shared → Prop} (hfit : l.length ≤ 1000) (h : Q (.int l.length (s.toks + 1)) { s with toks := s.toks + 1 + 1 }) : wpAny (model prog w) A (call (.builtin "len") [.str (S l) t]) Q E s := by
  refine P.len_str (by rw [S_len]; omega) ?_
  rw [S_len]; exact h
theorem item_S {i : Int} {Q : Value → Shared → Prop} {value slice : Expr} (h0 : 0 ≤ i) (h1 : i < l.length) (hfit : l.length ≤ 1000)
    (h : Q (.str (S [l.getD i.toNat 0]) s.toks) { s with toks := s.toks + 1 })
    (hs : subscripted slice false (.str (S l) t) (.int i u) = operate [.str (S l) t, .int i u] (getItem (.str (S l) t) (.int i u)) := by with_unfolding_all rfl)
    (ht : ∀ r, letTemporaryGo value (.str (S l) t) r = pure () := by intro _; with_unfolding_all rfl) :
    wpAny (model prog w) A (subscriptTail value slice (.str (S l) t) (.int i u)) Q E s := by
  have g : wpAny (model prog w) A (getItem (.str (S l) t) (.int i u)) Q E s := by
    refine P.getItem_str (c := l.getD i.toNat 0) (by simp only [Bool.or_eq_false_iff, decide_eq_false_iff_not]; omega) (StrLaws.at_nonneg h0 ?_) h
    have : i.toNat < l.length := by omega
    simp [S, this]
  exact tail_of_ItemOn ⟨"str", _, F.slot_str_getitem.lookup, typeIs_str s _ t, g⟩ hs ht
theorem itemN_S {i : Int} {Q : Value → Shared → Prop} {value slice : Expr} (h0 : i < 0) (h1 : -(l.length : Int) ≤ i) (hfit : l.length ≤ 1000)
    (h : Q (.str (S [l.getD (l.length - (-i).toNat) 0]) s.toks) { s with toks := s.toks + 1 })
    (hs : subscripted slice false (.str (S l) t) (.int i u) = operate [.str (S l) t, .int i u] (getItem (.str (S l) t) (.int i u)) := by with_unfolding_all rfl)
    (ht : ∀ r, letTemporaryGo value (.str (S l) t) r = pure () := by intro _; with_unfolding_all rfl) :
    wpAny (model prog w) A (subscriptTail value slice (.str (S l) t) (.int i u)) Q E s := by
  have g : wpAny (model prog w) A (getItem (.str (S l) t) (.int i u)) Q E s := by
    refine P.getItem_str (c := l.getD (l.length - (-i).toNat) 0) (by simp only [Bool.or_eq_false_iff, decide_eq_false_iff_not]; omega) (StrLaws.at_neg h0 (by rw [S_len]; exact h1) ?_) h
    rw [S_len, show (i + (l.length : Int)).toNat = l.length - (-i).toNat from by omega]
    have : l.length - (-i).toNat < l.length := by omega
    simp [S, this]
  exact tail_of_ItemOn ⟨"str", _, F.slot_str_getitem.lookup, typeIs_str s _ t, g⟩ hs ht
theorem sl_sn {i : Int} {ui : Tok} {Q : Value → Shared → Prop} {value slice : Expr} (hF : Fr h₀ L s.heap m) (hN : News h₀ L s.heap news) (h0 : 0 ≤ i) (h1 : i ≤ l.length) (hfit : l.length ≤ 1000)
    (h : ∀ h' t' k, Fr h₀ L h' m → News h₀ L h' news → Q (.str (S (l.drop i.toNat)) t') { s with heap := h', toks := k })
    (hs : subscripted slice false (.str (S l) t) (.ref s.heap.objs.size) = operate [.ref s.heap.objs.size, .str (S l) t] (getItem (.str (S l) t) (.ref s.heap.objs.size)) := by with_unfolding_all rfl)
    (ht : ∀ r, letTemporaryGo value (.str (S l) t) r = pure () := by intro _; with_unfolding_all rfl) :
    wpAny (model prog w) A (subscriptTail value slice (.str (S l) t) (.ref s.heap.objs.size)) Q E { s with heap := s.heap.push { cls := .type "slice", data := .fields #[.int i ui, .none, .none] } } :=
  slice_strN_sn hF hN (fun h' t' k a b => by rw [slice_sn h0 h1]; exact h h' t' k a b) hs ht (by rw [S_len, sizeLine_eq]; omega)
theorem sl_nn {Q : Value → Shared → Prop} {value slice : Expr} (hF : Fr h₀ L s.heap m) (hN : News h₀ L s.heap news) (hfit : l.length ≤ 1000)
    (h : ∀ h' t' k, Fr h₀ L h' m → News h₀ L h' news → Q (.str (S l) t') { s with heap := h', toks := k })
    (hs : subscripted slice false (.str (S l) t) (.ref s.heap.objs.size) = operate [.ref s.heap.objs.size, .str (S l) t] (getItem (.str (S l) t) (.ref s.heap.objs.size)) := by with_unfolding_all rfl)
    (ht : ∀ r, letTemporaryGo value (.str (S l) t) r = pure () := by intro _; with_unfolding_all rfl) :
    wpAny (model prog w) A (subscriptTail value slice (.str (S l) t) (.ref s.heap.objs.size)) Q E { s with heap := s.heap.push { cls := .type "slice", data := .fields #[.none, .none, .none] } } :=
  slice_strN_nn hF hN (fun h' t' k a b => by rw [slice_nn]; exact h h' t' k a b) hs ht (by rw [S_len, sizeLine_eq]; omega)
theorem sl_ns {j : Int} {uj : Tok} {Q : Value → Shared → Prop} {value slice : Expr} (hF : Fr h₀ L s.heap m) (hN : News h₀ L s.heap news) (h0 : j < 0) (h1 : -(l.length : Int) ≤ j) (hfit : l.length ≤ 1000)
    (h : ∀ h' t' k, Fr h₀ L h' m → News h₀ L h' news → Q (.str (S (l.take (l.length - (-j).toNat))) t') { s with heap := h', toks := k })
    (hs : subscripted slice false (.str (S l) t) (.ref s.heap.objs.size) = operate [.ref s.heap.objs.size, .str (S l) t] (getItem (.str (S l) t) (.ref s.heap.objs.size)) := by with_unfolding_all rfl)
    (ht : ∀ r, letTemporaryGo value (.str (S l) t) r = pure () := by intro _; with_unfolding_all rfl) :
    wpAny (model prog w) A (subscriptTail value slice (.str (S l) t) (.ref s.heap.objs.size)) Q E { s with heap := s.heap.push { cls := .type "slice", data := .fields #[.none, .int j uj, .none] } } :=
  slice_strN_ns hF hN (fun h' t' k a b => by rw [slice_ns h0 h1]; exact h h' t' k a b) hs ht (by rw [S_len, sizeLine_eq]; omega)
theorem eq_S {r : List Nat} {Q : Value → Shared → Prop} (h : Q (.bool (decide (l = r))) s) : wpAny (model prog w) A (compareOp .Eq (.str (S l) t) (.str (S r) u)) Q E s := by
  refine P.eq_str ?_
  have : ((S l).cps.toList == (S r).cps.toList) = decide (l = r) := by
    show (l == r) = _
    by_cases h : l = r
    · subst h; simp
    · rw [beq_eq_false_iff_ne.mpr h, decide_eq_false h]
  rw [this]; exact h
end
end
-- L1 (0)
section
open PySem PySem.W PyProof.Rows
theorem post_slice {prog : Program} {w : World} {A : Around} {E : Value → Shared → Prop} {s : Shared} {g : Heap} {L a : Addr} {m : Str → Option Value} {news : List (Addr × Obj)} {name nm : Str} {scope : Scope} {cd : Value} {x : List Nat} {t u : Tok} {post : Int} {p1 p2 p3 p4 p5 p6 : Pos} {kk : Nat} {Q : Value → Shared → Prop}
    (F : Fr g L s.heap m) (N : News g L s.heap news) (ha : m nm = some (.str (S x) t)) (hp : m (Str.ofString "post") = some (.int post u)) (h0 : post ≤ 0) (h1 : -post < x.length) (h2 : x.length ≤ 16)
    (hk : scope.kind = .function) (hla : (envOf name scope L a cd).kindOf nm = some .local) (hlp : (envOf name scope L a cd).kindOf (Str.ofString "post") = some .local) (hd : (nm == ("__debug__" : Str)) = false)
    (hQ : ∀ h' t' k, Fr g L h' m → News g L h' news → Q (.str (S (x.take (x.length - (-post).toNat))) t') { s with heap := h', toks := k }) :
    wpAny (model prog w) A (eval (.Subscript (.Name nm p1) (.Slice none (some (.BoolOp .Or [.Name (Str.ofString "post") p2, .Constant .none kk p3] p4)) none p5) p6) (envOf name scope L a cd)) Q E s := by
  refine Subscript_ (ld F ha ?_ hk hla hd)
  refine wpAny_Slice ?_
  refine evalPart_none_step ?_
  refine evalPart_some_step ?_
  refine BoolOp_or (ld F hp ?_ hk hlp (by decide))
  refine truthy_int ?_
  have hlen : (S x).length ≤ sizeLine := by rw [S_len, sizeLine_eq]; omega
  by_cases hz : post = 0
  · subst hz
    simp only [show ((0 : Int) != 0) = false from rfl, Bool.false_eq_true, if_false]
    refine BoolOp_one (wpAny_Constant_none ?_)
    refine evalPart_none_step ?_
    refine sl_nn (s := s) F N (by omega) (fun h' t' k F' N' => ?_)
    have := hQ h' t' k F' N'
    simpa using this
  · simp only [show (post != 0) = true from bne_iff_ne.mpr hz, if_true]
    refine evalPart_none_step ?_
    exact sl_ns (s := s) F N (by omega) (by omega) (by omega) hQ
end
-- C6 (0)
section
open PySem PySem.W PyProof.Rows
def subst (a b : Str) : Int := if a = b then 0 else if Txt.lower a = Txt.lower b then 1 else 2
theorem subst_use {w : World} {mean : ExcName → Option Value} {mg mb : Str → Option Value} {news : List (Addr × Obj)} {c d : Str} {tc td : Tok} {dp un : Nat} {gd : Option (List Code)} {cn : Str} {cs : Scope} {a : Addr} {ccd : Value} {cl : List (Str × Addr)} {outer : List Env} {A₀ : Around} {base h₀ : Heap} {L : Addr} {m : Str → Option Value} {s : Shared} {Q E : Value → Shared → Prop}
   (hc : c.length ≤ 1048576) (hd : d.length ≤ 1048576) :
   Pre w mean mg mb cs A₀ outer base h₀ L m news s.heap dp un 1 8 ((∀ (t : Tok) (h' : Heap) (tk' : Nat), Fr h₀ L h' m → News h₀ L h' news → Q (.int (subst c d) t) { s with heap := h', toks := tk' }) →
    wpAny (model PW w) (ktrTop dp un gd cn cs L a ccd cl outer) (call (.ref 200) [.str c tc, .str d td]) Q E s) := by
  intro B F X N T hk hd hu hret
  refine wpAny_call ?_
  k_with_none
  k_dflt cell_enter
  (k_steps; repeat' (first | (refine gp_use (by assumption) ?_; (try dsimp only); k_steps)))
  all_goals (refine cb_retI hret ?_ (by k_asm) (by k_asm); unfold subst; simp_all; done)
end
-- E8 (0)
section
open PySem PySem.W PyProof.Rows PyProof.V
def strItems : Nat → List Nat → List Itm
  | _, [] => []
  | i, c :: r => .pairF (fun t => .int (i : Int) t) (.str (S [c])) :: strItems (i + 1) r
theorem strItems_length : ∀ (cs : List Nat) (a : Nat), (strItems a cs).length = cs.length
  | [], _ => rfl
  | _ :: r, a => congrArg (· + 1) (strItems_length r (a + 1))
theorem strItems_get : ∀ (cs : List Nat) (a i : Nat) {c : Nat}, cs[i]? = some c → (strItems a cs)[i]? = some (.pairF (fun t => .int ((a + i : Nat) : Int) t) (.str (S [c])))
  | [], _, _, _, h => by simp at h
  | x :: r, a, 0, v, h => by
    have e : x = v := by simpa using h
    subst e
    rfl
  | x :: r, a, i + 1, v, h => by
    have h' : r[i]? = some v := by simpa using h
    have q := strItems_get r (a + 1) i h'
    have e : a + 1 + i = a + (i + 1) := by omega
    rw [e] at q
    simpa [strItems] using q
section
variable {prog : Program} {w : World} {A : Around} {E : Value → Shared → Prop} {s : Shared} {env : Env} {h₀ : Heap} {body : List Stmt} {Q : Flow → Shared → Prop}
theorem enumS_turns {elts : List Expr} {k : Nat} {pos : Pos} {cs : List Nat} {t : Tok} {m₀ : Str → Option Value} {news : List (Addr × Obj)}
    (hh : A.handled = none) (F : Fr h₀ env.locals s.heap m₀) (N : News h₀ env.locals s.heap news) (ha : cs.all (· < 128) = true)
    (rest₀ : ∀ I : Addr, (∀ p ∈ news, p.1 < I) → ItemsRest prog w A E h₀ env (.Tuple elts k pos) body Q s [(I + 1, "enumerate"), (I, "str_ascii_iterator")] [] (strItems 0 cs) m₀ news) :
    wpAny (model prog w) A (call (.type "enumerate") [.str (S cs) t]) (fun xv s₁ => wpAny (model prog w) A (pyIter xv) (fun it s₂ => TurnsAt prog w A h₀ env (.Tuple elts k pos) body Q E it s₂) E s₁) E s := by
  have hLs : env.locals < s.heap.objs.size := F.ns.lt
  have ha' : (S cs).cps.all (· < 128) = true := by simpa [S] using ha
  refine call_enumerate_str fun h' hE hI hsz hk => ?_
  have hI' : h'.IsStrIter s.heap.objs.size "str_ascii_iterator" (S cs) t 0 := by simpa [strIterType, ha'] using hI
  refine wpAny_pyIter_enum hE ?_
  refine ktu_core (tk0 := s.toks) (keep := []) (KTurns.ofWalksU (WalksT.enumerateD (Draws.strAscii (A := A.in1) hh s.heap.objs.size (S cs) t) (s.heap.objs.size + 1) (Nat.succ_ne_self _) (fun hm => Nat.succ_ne_self _ (List.mem_singleton.mp hm)) (by simp)).toU) (by simp [strItems_length, S]) ?_ ?_ ?_ ?_ ?_ ?_ ?_ ?_ (F.keeps hk) (N.grown hk) trivial (rest₀ _ fun p hp => Heap.lt_size (N p hp).1)
  · rintro i v h ⟨T, vals, rfl, ⟨t', x, ⟨c, u, hx, rfl⟩, rfl⟩, hT⟩
    refine ⟨_, strItems_get cs 0 i (c := c) (by simpa [S] using hx), T, t', _, rfl, Flat.str (S [c]) u, ?_⟩
    show IsTup h T #[.int ((0 + i : Nat) : Int) t', .str (S [c]) u]
    rw [Nat.zero_add]
    exact hT
  · rintro i h ⟨⟨old, he⟩, ⟨oi, hoi, hic, _⟩⟩
    have he' : ∃ oe : Obj, h.get? (s.heap.objs.size + 1) = some oe ∧ oe.cls = .type "enumerate" := ⟨_, he, rfl⟩
    obtain ⟨oe, h1, h2⟩ := he'
    refine ⟨[(s.heap.objs.size + 1, oe), (s.heap.objs.size, oi)], ⟨⟨rfl, h2⟩, ⟨rfl, hic⟩, trivial⟩, fun p hp => ?_⟩
    rcases List.mem_cons.mp hp with rfl | hp
    · exact h1
    · rw [List.mem_singleton.mp hp]; exact hoi
  · intro b hb
    have hb' : b = s.heap.objs.size + 1 ∨ b = s.heap.objs.size := by simpa using hb
    rcases hb' with rfl | rfl
    · exact ⟨by simp, ktu_new F (Nat.le_add_right _ _)⟩
    · exact ⟨by simp, ktu_new F (Nat.le_refl _)⟩
  · intro b hb
    simpa using hb
  · intro b hb
    have hb' : b = s.heap.objs.size + 1 ∨ b = s.heap.objs.size := by simpa using hb
    rcases hb' with rfl | rfl
    · exact .inl (by simp)
    · exact .inl (by simp)
  · intro hI'
    have hb' : env.locals = s.heap.objs.size + 1 ∨ env.locals = s.heap.objs.size := by simpa using hI'
    rcases hb' with e | e
    · exact ktu_ne 1 hLs e
    · exact Nat.ne_of_lt hLs e
  · intro p hp hI'
    have hb' : p.1 = s.heap.objs.size + 1 ∨ p.1 = s.heap.objs.size := by simpa using hI'
    have hlp := Heap.lt_size (N p hp).1
    rcases hb' with e | e
    · exact ktu_ne 1 hlp e
    · exact Nat.ne_of_lt hlp e
  · exact ⟨⟨.none, hE⟩, hI'⟩
/-- a loop's items by an invariant -/
theorem IR_ind {target : Expr} {σ : Type} {f : Nat → σ → Itm} {ws : List (Addr × String)} {keep : List (Addr × Obj)} (Inv : List σ → (Str → Option Value) → List (Addr × Obj) → Prop) {all : List σ}
    (step : ∀ (pre : List σ) (a : σ) (r : List σ) (m : Str → Option Value) (news : List (Addr × Obj)) (items : List Itm), all = pre ++ a :: r → Inv pre m news →
      (∀ m' news', Inv (pre ++ [a]) m' news' → ItemsRest prog w A E h₀ env target body Q s ws keep items m' news') → ItemsRest prog w A E h₀ env target body Q s ws keep (f pre.length a :: items) m news)
    (fin : ∀ m news, Inv all m news → ItemsRest prog w A E h₀ env target body Q s ws keep [] m news) :
    ∀ (pre r : List σ) (m : Str → Option Value) (news : List (Addr × Obj)), all = pre ++ r → Inv pre m news → ItemsRest prog w A E h₀ env target body Q s ws keep ((r.zipIdx pre.length).map fun p => f p.2 p.1) m news
  | pre, [], m, news, e, h => fin m news (by rw [e, List.append_nil]; exact h)
  | pre, a :: r, m, news, e, h => step pre a r m news _ e h fun m' news' h' => by
    have := IR_ind Inv step fin (pre ++ [a]) r m' news' (by rw [e, List.append_assoc]; rfl) h'
    rw [List.length_append, List.length_singleton] at this
    exact this
theorem strItems_eq : ∀ (cs : List Nat) (a : Nat), strItems a cs = (cs.zipIdx a).map fun p => .pairF (fun t => .int (p.2 : Int) t) (.str (S [p.1]))
  | [], _ => rfl
  | c :: r, a => by rw [strItems, strItems_eq r (a + 1), List.zipIdx_cons]; rfl
end
end
-- C8a (0)
section
open PySem PySem.W PyProof.Rows
inductive StrsAre : List Value → List (List Nat) → Prop
  | nil : StrsAre [] []
  | cons {x : List Nat} {t : Tok} {vs : List Value} {xs : List (List Nat)} : StrsAre vs xs → StrsAre (.str (S x) t :: vs) (x :: xs)
theorem StrsAre.length : ∀ {vs : List Value} {xs : List (List Nat)}, StrsAre vs xs → vs.length = xs.length
  | _, _, .nil => rfl
  | _, _, .cons h => congrArg (· + 1) h.length
theorem StrsAre.snoc {x : List Nat} {t : Tok} : ∀ {vs : List Value} {xs : List (List Nat)}, StrsAre vs xs → StrsAre (vs ++ [.str (S x) t]) (xs ++ [x])
  | _, _, .nil => .cons .nil
  | _, _, .cons h => .cons h.snoc
theorem S_app (a b : List Nat) : S a ++ S b = S (a ++ b) := by
  show Str.mk _ = Str.mk _
  simp [S]
theorem frame_form {ps : List (Str × Value)} {st : List Str} {m₀ m : Str → Option Value} (h1 : ∀ p ∈ ps, m p.1 = some p.2) (h2 : ∀ z, (∀ p ∈ ps, z ≠ p.1) → st.contains z = false → m z = m₀ z) :
    ∃ u : Str → Option Value, m = kstB (fun z => if st.contains z then u z else m₀ z) ps := ⟨m, by
  funext z
  refine (kstB_eq h1 fun hn => ?_).symm
  cases h3 : st.contains z with
  | true => simp
  | false => simp only [Bool.false_eq_true, if_false]; exact (h2 z hn h3).symm⟩
theorem frame_form0 {st : List Str} {m₀ m : Str → Option Value} (h2 : ∀ z, st.contains z = false → m z = m₀ z) : ∃ u : Str → Option Value, m = (fun z => if st.contains z then u z else m₀ z) := ⟨m, by
  funext z
  cases h3 : st.contains z with
  | true => simp
  | false => simp only [Bool.false_eq_true, if_false]; exact h2 z h3⟩
def lowA (c : Nat) : Nat := if 65 ≤ c ∧ c ≤ 90 then c + 32 else c
/-- one letter's piece -/
def pc (prs : List Int) (mk : Int) (ma mb : List Nat) (i c : Nat) (inn : Bool) : List Nat :=
  if prs.getD i 0 = 2 then (if (i : Int) = mk then (if inn then mb else ma) else (if inn then [53 + i] else [c])) else (if inn then [c] else [lowA c])
def txtFrom (prs : List Int) (mk : Int) (ma mb : List Nat) (path : List Int) : Nat → List Nat → List Nat
  | _, [] => []
  | i, c :: r => pc prs mk ma mb i c (path.any (· == (i : Int))) ++ txtFrom prs mk ma mb path (i + 1) r
inductive RefPaths (news : List (Addr × Obj)) (b : Nat) : List Value → List (List Int) → Prop
  | nil : RefPaths news b [] []
  | cons {a : Addr} {us : List Value} {n : Nat} {l : List Int} {vs : List Value} {ps : List (List Int)} : (a, listOf us.toArray n) ∈ news → IntsAre us l → l.length ≤ b → RefPaths news b vs ps → RefPaths news b (.ref a :: vs) (l :: ps)
theorem RefPaths.length {news : List (Addr × Obj)} {b : Nat} : ∀ {vs : List Value} {ps : List (List Int)}, RefPaths news b vs ps → vs.length = ps.length
  | _, _, .nil => rfl
  | _, _, .cons _ _ _ h => congrArg (· + 1) h.length
theorem RefPaths.get {news : List (Addr × Obj)} {b : Nat} : ∀ {vs : List Value} {ps : List (List Int)}, RefPaths news b vs ps → ∀ i, i < vs.length → ∃ a us n, vs[i]? = some (.ref a) ∧ (a, listOf us.toArray n) ∈ news ∧ IntsAre us (ps.getD i []) ∧ (ps.getD i []).length ≤ b
  | _, _, .nil, i, hi => absurd hi (Nat.not_lt_zero _)
  | _, _, .cons hm hI hb _, 0, _ => ⟨_, _, _, rfl, hm, hI, hb⟩
  | _, _, .cons _ _ _ h, i + 1, hi => h.get i (Nat.lt_of_succ_lt_succ hi)
section
variable {prog : Program} {w : World} {A : Around} {E : Value → Shared → Prop} {s : Shared} {h₀ : Heap} {L D B P : Addr} {m : Str → Option Value} {news old : List (Addr × Obj)} {vs us : List Value} {ps : List (List Int)} {l : List Int} {n c b : Nat} {i k : Int} {t u : Tok} {Q : Value → Shared → Prop}
theorem item_path {value slice : Expr} (N : News h₀ L s.heap news) (hm : (P, listOf vs.toArray c) ∈ news) (hR : RefPaths news b vs ps) (h0 : 0 ≤ i) (h1 : i < ps.length) (hsz : ps.length ≤ 8)
    (h : ∀ D us n, (D, listOf us.toArray n) ∈ news → IntsAre us (ps.getD i.toNat []) → (ps.getD i.toNat []).length ≤ b → Q (.ref D) s)
    (hs : subscripted slice false (.ref P) (.int i u) = operate [.ref P, .int i u] (getItem (.ref P) (.int i u)) := by with_unfolding_all rfl) :
    wpAny (model prog w) A (subscriptTail value slice (.ref P) (.int i u)) Q E s := by
  have hlen := hR.length
  obtain ⟨a, us, n, e, hmem, hI, hb⟩ := hR.get i.toNat (by omega)
  have hl : s.heap.IsList P vs.toArray := PySem.IsL.isList (n := c) (N _ hm).1
  exact tail_any hl.typeIs slot_list_getitem.lookup (wpAny_getItem_list hl h0 (by omega) (by simpa using e) (h a us n hmem hI hb)) hs
theorem item_pathM {value slice : Expr} {d : Int} (b : Nat) (N : News h₀ L s.heap news) (hm : (P, listOf vs.toArray c) ∈ news) (hR : RefPaths news b vs ps) (hk : k = (ps.length : Int)) (h1 : 0 < ps.length) (hsz : ps.length ≤ 8)
    (h : ∀ D us n, (D, listOf us.toArray n) ∈ news → IntsAre us (ps.getD (d % (ps.length : Int)).toNat []) → (ps.getD (d % (ps.length : Int)).toNat []).length ≤ b → Q (.ref D) s)
    (hs : subscripted slice false (.ref P) (.int (d.fmod k) u) = operate [.ref P, .int (d.fmod k) u] (getItem (.ref P) (.int (d.fmod k) u)) := by with_unfolding_all rfl) :
    wpAny (model prog w) A (subscriptTail value slice (.ref P) (.int (d.fmod k) u)) Q E s := by
  subst hk
  have e : d.fmod (ps.length : Int) = d % (ps.length : Int) := Int.fmod_eq_emod_of_nonneg d (by omega)
  have g0 := Int.emod_nonneg d (b := (ps.length : Int)) (by omega)
  have g1 := Int.emod_lt_of_pos d (b := (ps.length : Int)) (by omega)
  rw [← e] at g0 g1
  exact item_path N hm hR g0 g1 hsz (by rw [e]; exact h) hs
theorem add_path (F : Fr h₀ L s.heap m) (N : News h₀ L s.heap news) (hD : (D, listOf us.toArray n) ∈ old) (hsub : ∀ p ∈ old, p ∈ news) (hB : (B, listOf #[.int k t] c) ∈ news) (hi : IntsAre us l) (hl : l.length ≤ b) (hb : b ≤ 8)
    (h : ∀ R us' h' l', l' = l ++ [k] → Fr h₀ L h' m → News h₀ L h' ((R, listOf (List.toArray us') 0) :: news) → (∀ p ∈ news, p.1 < R) → IntsAre us' l' → l'.length ≤ b + 1 → Q (.ref R) { s with heap := h' }) :
    wpAny (model prog w) A (binaryOp .Add (.ref D) (.ref B)) Q E s := by
  refine kmk_add_ints (vs := us) (ws := [.int k t]) F N (PySem.IsL.isList (n := n) (N _ (hsub _ hD)).1) (PySem.IsL.isList (n := c) (N _ hB).1) hi (.cons k t .nil) (fun R us' h' F' N' hlt hI => h R us' h' _ rfl F' N' hlt hI (by simp; omega)) (by rw [sizeLine_eq]; simp; omega)
end
theorem RefPaths.sub {news old : List (Addr × Obj)} {b b' : Nat} (hb : b ≤ b') : ∀ {vs : List Value} {ps : List (List Int)}, RefPaths old b vs ps → (∀ a, .ref a ∈ vs → ∀ o, (a, o) ∈ old → (a, o) ∈ news) → RefPaths news b' vs ps
  | _, _, .nil, _ => .nil
  | _, _, .cons hm hI hl h, k => .cons (k _ List.mem_cons_self _ hm) hI (Nat.le_trans hl hb) (h.sub hb fun a ha => k a (List.mem_cons_of_mem _ ha))
theorem RefPaths.zip {news : List (Addr × Obj)} {b : Nat} : ∀ {vs : List Value} {ps : List (List Int)}, RefPaths news b vs ps → ∃ all : List (Addr × List Int), vs = all.map (fun a => .ref a.1) ∧ ps = all.map (·.2) ∧ ∀ a ∈ all, ∃ us n, (a.1, listOf (List.toArray us) n) ∈ news ∧ IntsAre us a.2 ∧ a.2.length ≤ b
  | _, _, .nil => ⟨[], rfl, rfl, fun _ h => nomatch h⟩
  | _, _, .cons (a := a) (l := l) hm hI hl h => by
    obtain ⟨all, rfl, rfl, k⟩ := h.zip
    refine ⟨(a, l) :: all, rfl, rfl, fun x hx => ?_⟩
    rcases List.mem_cons.mp hx with rfl | hx
    · exact ⟨_, _, hm, hI, hl⟩
    · exact k x hx
theorem prep {G : Prop} {g : Heap} {L T P Dp Dm Dd xn : Addr} {h : Heap} {mm : Str → Option Value} {news : List (Addr × Obj)} {vs : List Value} {ps : List (List Int)} {c cP : Nat} {oP oM oD on oV : Obj} (N : News g L h news) (_eT : mm "texts" = some (.ref T)) (_eP : mm "paths" = some (.ref P)) (hT : (T, listOf #[] c) ∈ news) (hV : (P, oV) ∈ news) (eV : oV = listOf vs.toArray cP) (hR : RefPaths news 4 vs ps)
    (hp : (Dp, oP) ∈ news) (hm : (Dm, oM) ∈ news) (hd : (Dd, oD) ∈ news) (hx : (xn, on) ∈ news) (hv : ∀ a, .ref a ∈ vs → a ≠ T) (nP : P ≠ T) (nDp : Dp ≠ T) (nDm : Dm ≠ T) (nDd : Dd ≠ T) (nx : xn ≠ T)
    (k : ∀ rest : List (Addr × Obj), News g L h ((T, listOf (List.toArray []) c) :: (Dp, oP) :: (Dm, oM) :: rest) → (P, listOf vs.toArray cP) ∈ rest → RefPaths rest 4 vs ps → (Dp, oP) ∈ rest → (Dm, oM) ∈ rest → (Dd, oD) ∈ rest → (xn, on) ∈ rest → (∀ p ∈ rest, p.1 ≠ T) → G) : G := by
  subst eV
  have hP := hV
  have mem : ∀ {p : Addr × Obj}, p ∈ news → p.1 ≠ T → p ∈ news.filter (fun p => p.1 != T) := fun hp hn => List.mem_filter.mpr ⟨hp, bne_iff_ne.mpr hn⟩
  refine k (news.filter fun p => p.1 != T) ?_ (mem hP nP) (hR.sub (Nat.le_refl _) fun a ha o ho => mem ho (hv a ha)) (mem hp nDp) (mem hm nDm) (mem hd nDd) (mem hx nx) fun p hp => bne_iff_ne.mp (List.mem_filter.mp hp).2
  intro p hq
  rcases List.mem_cons.mp hq with rfl | hq
  · exact N _ hT
  rcases List.mem_cons.mp hq with rfl | hq
  · exact N _ hp
  rcases List.mem_cons.mp hq with rfl | hq
  · exact N _ hm
  exact N _ (List.mem_filter.mp hq).1
theorem val_zip : ∀ (all : List (Addr × List Int)) (k : Nat), (all.map fun a => Value.ref a.1).map Itm.val = (all.zipIdx k).map fun p => (fun (_ : Nat) (a : Addr × List Int) => Itm.val (.ref a.1)) p.2 p.1
  | [], _ => rfl
  | a :: r, k => by
    rw [List.zipIdx_cons, List.map_cons, List.map_cons, List.map_cons, val_zip r (k + 1)]
theorem inv_off {news : List (Addr × Obj)} {I : Addr} {its : List (Addr × Obj)} (h : ∀ p ∈ news, p.1 < I) (hi : ∀ q ∈ its, I ≤ q.1) : ∀ p ∈ news, ∀ q ∈ its, p.1 ≠ q.1 := fun p hp q hq => Nat.ne_of_lt (Nat.lt_of_lt_of_le (h p hp) (hi q hq))
abbrev stO : List Str := ["path", "text", "place", "letter", "pair"]
abbrev stI : List Str := ["place", "letter", "pair"]
structure InvO (T Dp Dm : Addr) (oP oM : Obj) (rest : List (Addr × Obj)) (tx : List Int → List Nat) (m₀ : Str → Option Value) (pre : List (Addr × List Int)) (m : Str → Option Value) (news : List (Addr × Obj)) : Prop where
  ex : ∃ xs c, news = (T, listOf (List.toArray xs) c) :: (Dp, oP) :: (Dm, oM) :: rest ∧ StrsAre xs (pre.map fun a => tx a.2) ∧ ∀ z, stO.contains z = false → m z = m₀ z
theorem lower_one {c : Nat} (h : c < 128) : Txt.lower (S [c]) = S [lowA c] := by
  refine (lower_ascii (x := S [c]) fun d hd => ?_).trans ?_
  · have e : d = c := by simpa [S] using hd
    omega
  · show Str.mk _ = Str.mk _
    simp [S, lo1, lowA]
theorem lower_fits {c : Nat} (h : c < 128) : Builtin.Str.tooLong (Txt.lower (S [c])).length = false := by
  rw [lower_one h]
  rfl
theorem txtFrom_snoc {prs : List Int} {mk : Int} {ma mb : List Nat} {path : List Int} : ∀ (pre : List Nat) (k c : Nat), txtFrom prs mk ma mb path k (pre ++ [c]) = txtFrom prs mk ma mb path k pre ++ pc prs mk ma mb (k + pre.length) c (path.any (· == ((k + pre.length : Nat) : Int)))
  | [], k, c => by simp [txtFrom]
  | a :: r, k, c => by
    rw [List.cons_append, txtFrom, txtFrom_snoc r (k + 1) c, txtFrom, List.append_assoc, List.length_cons, show k + 1 + r.length = k + (r.length + 1) by omega]
theorem in_led {prog : Program} {w : World} {A : Around} {E : Value → Shared → Prop} {s : Shared} {h₀ : Heap} {L l : Addr} {news : List (Addr × Obj)} {vs : List Value} {ns : List Int} {n : Nat} {k : Int} {t : Tok} {Q : Value → Shared → Prop} (N : News h₀ L s.heap news) (hm : (l, listOf vs.toArray n) ∈ news) (hi : IntsAre vs ns)
    (h : Q (.bool (ns.any (· == k))) s) : wpAny (model prog w) A (compareOp .In (.int k t) (.ref l)) Q E s := in_list_ints (PySem.IsL.isList (n := n) (N _ hm).1) hi h
theorem iadd_S {prog : Program} {w : World} {A : Around} {E : Value → Shared → Prop} {s : Shared} {x y' : List Nat} {y : Str} {t u : Tok} {Q : Value → Shared → Prop} (ey : y = S y') (hx : x.length ≤ 100) (hy : y'.length ≤ 100) (h : ∀ t' k, Q (.str (S (x ++ y')) t') { s with toks := k }) : wpAny (model prog w) A (inplaceOp .Add (.str (S x) t) (.str y u)) Q E s := by
  subst ey
  refine SB.iadd (fun t' k => by rw [S_app]; exact h t' k) (by rw [S_len, S_len, sizeLine_eq]; omega)
theorem pc_len {prs : List Int} {mk : Int} {ma mb : List Nat} (h1 : ma.length ≤ 8) (h2 : mb.length ≤ 8) (i c : Nat) (b : Bool) : (pc prs mk ma mb i c b).length ≤ 8 := by
  unfold pc
  split
  · split
    · split <;> assumption
    · split <;> exact Nat.le_of_ble_eq_true rfl
  · split <;> exact Nat.le_of_ble_eq_true rfl
theorem txt_len {prs : List Int} {mk : Int} {ma mb : List Nat} {path : List Int} (h1 : ma.length ≤ 8) (h2 : mb.length ≤ 8) : ∀ (pre : List Nat) (k : Nat), (txtFrom prs mk ma mb path k pre).length ≤ 8 * pre.length
  | [], _ => Nat.le_refl _
  | a :: r, k => by
    have e1 := pc_len (prs := prs) (mk := mk) h1 h2 k a (path.any (· == (k : Int)))
    have e2 := txt_len (prs := prs) (mk := mk) (path := path) h1 h2 r (k + 1)
    rw [txtFrom, List.length_append, List.length_cons]
    omega
theorem str_five {n : Nat} (h : n < 4) : Str.ofString (toString ((n : Int) + 5)) = S [53 + n] := by
  rcases n with _ | _ | _ | _ | n
  · rfl
  · rfl
  · rfl
  · rfl
  · omega
section
variable {prs : List Int} {mk : Int} {ma mb : List Nat} {path : List Int} {pre : List Nat} {c : Nat}
theorem tx0 {b : Bool} {Y : List Nat} (h : (path.any (· == (pre.length : Int))) = b) (e : Y = pc prs mk ma mb pre.length c b) : txtFrom prs mk ma mb path 0 (pre ++ [c]) = txtFrom prs mk ma mb path 0 pre ++ Y := by
  rw [txtFrom_snoc, Nat.zero_add, h, e]
theorem tx1 (h1 : prs.getD (pre.length : Int).toNat 0 = 2) (h2 : (pre.length : Int) = mk) (h3 : (path.any (· == (pre.length : Int))) = true) : txtFrom prs mk ma mb path 0 (pre ++ [c]) = txtFrom prs mk ma mb path 0 pre ++ mb := by
  refine tx0 h3 ?_
  have h1' : prs.getD pre.length 0 = 2 := h1
  rw [pc, if_pos h1', if_pos h2]
  rfl
theorem tx2 (h1 : prs.getD (pre.length : Int).toNat 0 = 2) (h2 : (pre.length : Int) = mk) (h3 : (path.any (· == (pre.length : Int))) = false) : txtFrom prs mk ma mb path 0 (pre ++ [c]) = txtFrom prs mk ma mb path 0 pre ++ ma := by
  refine tx0 h3 ?_
  have h1' : prs.getD pre.length 0 = 2 := h1
  rw [pc, if_pos h1', if_pos h2]
  rfl
theorem tx3 (h1 : prs.getD (pre.length : Int).toNat 0 = 2) (h2 : (pre.length : Int) ≠ mk) (h3 : (path.any (· == (pre.length : Int))) = true) : txtFrom prs mk ma mb path 0 (pre ++ [c]) = txtFrom prs mk ma mb path 0 pre ++ [53 + pre.length] := by
  refine tx0 h3 ?_
  have h1' : prs.getD pre.length 0 = 2 := h1
  rw [pc, if_pos h1', if_neg h2]
  rfl
theorem tx4 (h1 : prs.getD (pre.length : Int).toNat 0 = 2) (h2 : (pre.length : Int) ≠ mk) (h3 : (path.any (· == (pre.length : Int))) = false) : txtFrom prs mk ma mb path 0 (pre ++ [c]) = txtFrom prs mk ma mb path 0 pre ++ [c] := by
  refine tx0 h3 ?_
  have h1' : prs.getD pre.length 0 = 2 := h1
  rw [pc, if_pos h1', if_neg h2]
  rfl
theorem tx5 (h1 : prs.getD (pre.length : Int).toNat 0 ≠ 2) (h3 : (path.any (· == (pre.length : Int))) = true) : txtFrom prs mk ma mb path 0 (pre ++ [c]) = txtFrom prs mk ma mb path 0 pre ++ [c] := by
  refine tx0 h3 ?_
  have h1' : ¬ prs.getD pre.length 0 = 2 := h1
  rw [pc, if_neg h1']
  rfl
theorem tx6 (h1 : prs.getD (pre.length : Int).toNat 0 ≠ 2) (h3 : (path.any (· == (pre.length : Int))) = false) : txtFrom prs mk ma mb path 0 (pre ++ [c]) = txtFrom prs mk ma mb path 0 pre ++ [lowA c] := by
  refine tx0 h3 ?_
  have h1' : ¬ prs.getD pre.length 0 = 2 := h1
  rw [pc, if_neg h1']
  rfl
end
def nextPath (ps : List (List Int)) (d k : Int) : List Int := ps.getD (d % (ps.length : Int)).toNat [] ++ [k]
def path1 (d0 : Int) : List Int := nextPath [[]] d0 0
def path2 (d0 d1 : Int) : List Int := nextPath [[], path1 d0] d1 1
def path3 (d0 d1 d2 : Int) : List Int := nextPath [[], path1 d0, path2 d0 d1] d2 2
def path4 (d0 d1 d2 d3 : Int) : List Int := nextPath [[], path1 d0, path2 d0 d1, path3 d0 d1 d2] d3 3
def pathsOf (d0 d1 d2 d3 : Int) : List (List Int) := [[], path1 d0, path2 d0 d1, path3 d0 d1 d2, path4 d0 d1 d2 d3]
theorem off_outer {T I : Addr} {o o' : Obj} {r : List (Addr × Obj)} (h : ∀ p ∈ (T, o) :: r, p.1 < I) : ∀ p ∈ (T, o') :: r, p.1 < I := fun p hp => by
  rcases List.mem_cons.mp hp with rfl | hp
  · exact h (T, o) List.mem_cons_self
  · exact h p (List.mem_cons_of_mem _ hp)
theorem end_turn {h₀ : Heap} {L : Addr} {s₁ : Shared} {its : List (Addr × Obj)} {rest : (Str → Option Value) → List (Addr × Obj) → Prop} {h' : Heap} {tk : Nat} {m' : Str → Option Value} {all : List (Addr × Obj)} (F : Fr h₀ L h' m') (N : News h₀ L h' all) (news' : List (Addr × Obj))
    (hs : ∀ p ∈ its ++ news', p ∈ all) (off : ∀ p ∈ news', ∀ q ∈ its, p.1 ≠ q.1) (r : rest m' news') : UnrEndW h₀ L s₁ its rest { s₁ with heap := h', toks := tk } :=
  ⟨h', tk, m', news', rfl, F, fun p hp => N p (hs p hp), off, r⟩
theorem inner_ind {prog : Program} {w : World} {A : Around} {E : Value → Shared → Prop} {s : Shared} {env : Env} {h₀ : Heap} {body : List Stmt} {Q : Flow → Shared → Prop} {target : Expr} {ws : List (Addr × String)} {keep N₀ : List (Addr × Obj)} {m₀ : Str → Option Value} {t₀ : Tok} {cs : List Nat} (tx : List Nat → List Nat) (h0 : tx [] = [])
    (ht : m₀ "text" = some (.str (S []) t₀))
    (step : ∀ (pre : List Nat) (c : Nat) (r : List Nat) (t : Tok) (u : Str → Option Value) (items : List Itm), cs = pre ++ c :: r →
      (∀ m', (∃ t', m' "text" = some (.str (S (tx (pre ++ [c]))) t')) → (∀ z : Str, z ≠ "text" → stI.contains z = false → m' z = m₀ z) → ItemsRest prog w A E h₀ env target body Q s ws keep items m' N₀) →
      ItemsRest prog w A E h₀ env target body Q s ws keep (.pairF (fun t => .int ((pre.length : Nat) : Int) t) (.str (S [c])) :: items) (kstB (fun z => if stI.contains z then u z else m₀ z) [("text", .str (S (tx pre)) t)]) N₀)
    (fin : ∀ (t : Tok) (u : Str → Option Value), ItemsRest prog w A E h₀ env target body Q s ws keep [] (kstB (fun z => if stI.contains z then u z else m₀ z) [("text", .str (S (tx cs)) t)]) N₀) :
    ItemsRest prog w A E h₀ env target body Q s ws keep (strItems 0 cs) m₀ N₀ := by
  rw [strItems_eq]
  have form : ∀ {x : List Nat} {m : Str → Option Value}, (∃ t, m "text" = some (.str (S x) t)) → (∀ z : Str, z ≠ "text" → stI.contains z = false → m z = m₀ z) → ∃ (t : Tok) (u : Str → Option Value), m = kstB (fun z => if stI.contains z then u z else m₀ z) [("text", .str (S x) t)] := by
    rintro x m ⟨t, h1⟩ h2
    obtain ⟨u, e⟩ := frame_form (ps := [("text", .str (S x) t)]) (st := stI) (m₀ := m₀) (m := m) (fun p hp => by rw [List.mem_singleton.mp hp]; exact h1) (fun z h3 h4 => h2 z (h3 _ List.mem_cons_self) h4)
    exact ⟨t, u, e⟩
  refine IR_ind (f := fun i c => Itm.pairF (fun t => .int (i : Int) t) (.str (S [c]))) (fun pre m news => news = N₀ ∧ (∃ t, m "text" = some (.str (S (tx pre)) t)) ∧ ∀ z : Str, z ≠ "text" → stI.contains z = false → m z = m₀ z) ?_ ?_ [] cs m₀ N₀ rfl ⟨rfl, ⟨t₀, h0.symm ▸ ht⟩, fun _ _ _ => rfl⟩
  · rintro pre c r m news items e ⟨rfl, h1, h2⟩ IH
    obtain ⟨t, u, rfl⟩ := form h1 h2
    exact step pre c r t u items e fun m' h3 h4 => IH m' _ ⟨rfl, h3, h4⟩
  · rintro m news ⟨rfl, h1, h2⟩
    obtain ⟨t, u, rfl⟩ := form h1 h2
    exact fin t u

end
-- S1 (0)
section
open PySem PySem.W PyProof.Rows PySem.Builtin PySem.Builtin.Re
/-- one piece of a first set: its code, its entry, and the chars that it lets pass -/
abbrev nCode : List Nat := [14, 10, 4, 1, 1, 22, 0, 31, 16, 127, 0, 13, 7, 22, 0, 31, 16, 127, 0, 1]
abbrev vCode : List Nat := [14, 14, 4, 1, 1, 9, 4294966783, 0, 0, 2147483648, 0, 0, 0, 0, 0, 13, 11, 9, 4294966783, 0, 0, 2147483648, 0, 0, 0, 0, 0, 1]
def SetNo (code : Array Nat) (c : Nat) : Prop := ∀ seen : Sre.Seen, ∃ seen', Sre.inSet code c code.size 5 true seen = .ok (false, seen')
theorem setNo_n {c : Nat} (h0 : 33 ≤ c) (h1 : c < 127) : SetNo nCode.toArray c := fun seen => by
  have a : (0 ≤ c && c ≤ 31) = false := by simp; omega
  have b : (c == 127) = false := by simp; omega
  refine ⟨((seen.add 22).add 16).add 0, ?_⟩
  show (if ((0 ≤ c && c ≤ 31) = true) then _ else Sre.inSet nCode.toArray c 19 8 true (seen.add 22)) = _
  rw [a, if_neg Bool.false_ne_true]
  show (if ((c == 127) = true) then _ else Sre.inSet nCode.toArray c 18 10 true ((seen.add 22).add 16)) = _
  rw [b, if_neg Bool.false_ne_true]
  rfl
def vBits (c : Nat) : Bool := c < 256 && (vCode.toArray.getD (5 + (1 + c / 32)) 0).testBit (c % 32)
theorem vBits_no : ∀ c, c < 127 → 33 ≤ c → vBits c = false := by decide +kernel
theorem setNo_v {c : Nat} (h0 : 33 ≤ c) (h1 : c < 127) : SetNo vCode.toArray c := fun seen => by
  have a := vBits_no c h1 h0
  refine ⟨(seen.add 9).add 0, ?_⟩
  show (if (vBits c = true) then _ else Sre.inSet vCode.toArray c 27 14 true (seen.add 9)) = _
  rw [a, if_neg Bool.false_ne_true]
  rfl
theorem admitted_no {m : Sre.M} (h : ∀ p, p < m.lim → SetNo m.code (m.text.getD p 0)) : ∀ (fuel s : Nat) (seen : Sre.Seen), ∃ seen', Sre.M.admitted m fuel s seen = .ok (none, seen')
  | 0, _, seen => ⟨seen, rfl⟩
  | fuel + 1, s, seen => by
    unfold Sre.M.admitted
    by_cases hs : s ≥ m.lim
    · exact ⟨seen, if_pos hs⟩
    · obtain ⟨s1, e1⟩ := h s (by omega) seen
      obtain ⟨s2, e2⟩ := admitted_no h fuel (s + 1) s1
      refine ⟨s2, ?_⟩
      rw [if_neg hs, e1]
      exact e2
/-- the machine ends at once -/
structure EndsNo (m : Sre.M) : Prop where
  ans : m.answer = some false
  fr : m.frames = []
  out : m.outcome = none
theorem EndsNo.ite {c : Prop} [Decidable c] {a b : Sre.M} (ha : EndsNo a) (hb : EndsNo b) : EndsNo (if c then a else b) := by split <;> assumption
theorem attemptFrom_no {m : Sre.M} {s : Nat} {b : Bool} (hs : m.hasFirstSet = true) (hf : m.frames = []) (ho : m.outcome = none) (h : ∀ p, p < m.lim → SetNo m.code (m.text.getD p 0)) : EndsNo (m.attemptFrom s b) := by
  unfold Sre.M.attemptFrom
  rw [hs]
  obtain ⟨s2, e2⟩ := admitted_no h (m.lim + 1 - s) s m.seen
  rw [e2]
  exact ⟨rfl, hf, ho⟩
theorem search_no {code text : Array Nat} (hd : Sre.M.hasFirstSet { code := code, text := text, lim := 0, start := 0, pc := 0, pos := 0, handed := 0, marks := #[] } = true) (h : ∀ p, p < text.size → SetNo code (text.getD p 0)) :
    EndsNo (Sre.forSearch code text 0 0 text.size false) :=
  by
  unfold Sre.forSearch
  dsimp only
  refine EndsNo.ite ⟨rfl, rfl, rfl⟩ ?_
  refine attemptFrom_no ?_ rfl rfl h
  exact hd

theorem rules_in {prog : Program} {w : World} {A : Around} {E : Value → Shared → Prop} {f : Nat → Bool} {g : Nat → String} : ∀ (l : List Nat) {Q : PUnit → Shared → Prop} {s : Shared}, Q ⟨⟩ s →
    wpAny (model prog w) A (forIn l PUnit.unit fun i _ => do
      if f i then do rule (g i); pure (ForInStep.yield PUnit.unit) else pure (ForInStep.yield PUnit.unit)) Q E s
  | [], _, _, h => wpAny_pure h
  | i :: r, _, _, h => by
    rw [List.forIn_cons]
    refine wpAny_bind ?_
    split
    · exact wpAny_bind (wpAny_rule (wpAny_pure (rules_in r h)))
    · exact wpAny_pure (rules_in r h)
theorem ends_run {prog : Program} {w : World} {A : Around} {E : Value → Shared → Prop} {s : Shared} {m : Sre.M} (h : EndsNo m) {Q : Option Sre.M → Shared → Prop} (hq : Q none s) : wpAny (model prog w) A (reRunToEnd m) Q E s := by
  unfold reRunToEnd
  have e1 : (m.step).outcome = some .failed := by
    unfold Sre.M.step
    rw [h.out, h.ans, h.fr]
    rfl
  have e2 : (m.runFor 4) = m.step := by
    show Sre.M.runFor (3 + 1) m = _
    unfold Sre.M.runFor
    rw [h.out]
    show Sre.M.runFor (2 + 1) m.step = _
    unfold Sre.M.runFor
    rw [e1]
    rfl
  have e3 : reDrive (2 ^ 64) m = pure m.step := by
    show reDrive (18446744073709551615 + 1) m = _
    unfold reDrive
    show (if (m.runFor 4).outcome.isSome = true then pure (m.runFor 4) else _) = _
    rw [e2, e1]
    rfl
  rw [e3]
  refine wpAny_bind (wpAny_pure ?_)
  refine wpAny_bind ?_
  refine rules_in _ ?_
  rw [e1]
  exact wpAny_pure hq

def Pat (h : Heap) (P : Addr) (code : List Nat) : Prop := Flt.IsPattern h P ⟨"", code, 0, 0⟩
theorem reNamed_one (v : Value) : reNamed "re.Pattern.search" "search" ["string", "pos", "endpos"] 1 [v] [] = pure [some v, none, none] := by rfl
theorem meets_search {P : Addr} {code : List Nat} {x : PySem.Str} {t : Tok} (hl : x.cps.size ≤ 1000)
    (hd : Sre.M.hasFirstSet { code := code.toArray, text := x.cps, lim := 0, start := 0, pc := 0, pos := 0, handed := 0, marks := #[] } = true) (h : ∀ p, p < x.cps.size → SetNo code.toArray (x.cps.getD p 0)) :
    Meets (Builtin.«re.Pattern.search» ⟨[.ref P, .str x t], []⟩) (fun _ R s => Pat s.heap P code ∧ R (.ok (.ret .none)) s) := by
  intro prog w A R s h2
  obtain ⟨hp, g, d, tk, os⟩ := s; obtain ⟨hP, hR⟩ := h2
  obtain ⟨fs, T, ws, n, p1, p2, p3, p4, p5, p6⟩ := hP
  have e : (ws.map Builtin.Re.reRawOf).map (·.toNat) = code.toArray := Array.toList_inj.mp p6
  have c : (2 ^ 63 - 1 : Int).toNat = 9223372036854775807 := by decide
  unfold Builtin.«re.Pattern.search»
  refine wpAny_bind ?_
  unfold reTarget
  refine wpAny_bind ?_
  dsimp only
  rw [reNamed_one]
  refine wpAny_pure ?_
  dsimp only
  refine wpAny_bind (wpAny_pure ?_)
  refine wpAny_bind (wpAny_pure ?_)
  refine wpAny_bind (wpAny_fieldsOf p1 rfl ?_)
  refine wpAny_bind (wpAny_pure ?_)
  rw [p4]
  show wpAny _ _ (if ((0 : Nat) == 0 && (0 : Nat) == 1) = true then _ else if ((0 : Nat) == 1 && (0 : Nat) == 0) = true then _ else _) _ _ _
  rw [if_neg (by decide), if_neg (by decide)]
  refine wpAny_bind (wpAny_pure ?_)
  rw [p2]
  refine wpAny_bind ?_
  refine wpAny_bind (wpAny_seqItems p5 rfl ?_)
  refine wpAny_pure ?_
  refine wpAny_pure ?_
  dsimp only
  unfold reAnswer
  refine wpAny_bind ?_
  have e2 : (Min.min (2 ^ 63 - 1 : Int).toNat x.cps.size) = x.cps.size := by rw [c]; omega
  have e3 : (Min.min (0 : Int).toNat x.cps.size) = 0 := by simp
  have key : ∀ (c0 : Array Nat) (g0 : Nat), c0 = code.toArray → g0 = 0 → wpAny (model prog w) A.in1 (reRunToEnd (Sre.forSearch c0 x.cps g0 0 x.cps.size false)) (fun (v : Option Sre.M) s₁ => v = none ∧ s₁ = { heap := hp, gens := g, drawn := d, toks := tk, os := os }) (fun e s' => R (.error e) s') { heap := hp, gens := g, drawn := d, toks := tk, os := os } := by
    intro c0 g0 hc hg
    subst hc hg
    exact ends_run (search_no hd h) ⟨rfl, rfl⟩
  rw [e2, e3]
  refine wpAny_mono (key _ _ e p3) (fun v s₁ h₁ => ?_) (fun _ _ q => q)
  obtain ⟨rfl, rfl⟩ := h₁
  exact wpAny_pure hR
theorem slot_search : Slot "re.Pattern" "search" "re.Pattern.search" :=
  .of (owner := "re.Pattern") (n := "search") (by rw [typeLookup_type, builtinLookup_eq_fast]; kernel_rfl) (by decide +kernel) (by decide +kernel) (by decide +kernel)
    (by first | exact .inl (by decide +kernel) | exact .inr (by decide +kernel)) (by rw [isSubtype_type]; kernel_rfl)
theorem entry_search : entryFor table "re.Pattern.search" = some Builtin.«re.Pattern.search» := entryFor_of_tree (by kernel_rfl)
theorem type_search : typeOf (.builtin "re.Pattern.search") = pure (.type "method_descriptor") := by show builtinType _ = _; rw [builtinType_eq_fast]; kernel_rfl
end
-- H1 (3)
section
open PySem PySem.W PyProof.Rows
abbrev Plain (l : List Nat) : Prop := l.length ≤ 16 ∧ ∀ c ∈ l, 33 ≤ c ∧ c < 127
theorem lower_S {l : List Nat} (h : Plain l) : Txt.lower (S l) = S (l.map lowA) := by
  refine (lower_ascii (x := S l) fun d hd => ?_).trans ?_
  · have := h.2 d (by simpa [S] using hd)
    omega
  · show Str.mk _ = Str.mk _
    simp [S, lo1, lowA]
theorem lower_Sfits {l : List Nat} (h : Plain l) : Builtin.Str.tooLong (Txt.lower (S l)).length = false := by
  rw [lower_S h, S_len, List.length_map]
  have := h.1
  unfold Builtin.Str.tooLong
  exact decide_eq_false (by rw [sizeLine_eq]; omega)
theorem plain_low {l : List Nat} (h : Plain l) : Plain (l.map lowA) := ⟨by rw [List.length_map]; exact h.1, fun c hc => by
  obtain ⟨d, hd, rfl⟩ := List.mem_map.mp hc
  have := h.2 d hd
  unfold lowA
  split <;> omega⟩
theorem plain_getD {xs : List (List Nat)} (h : ∀ x ∈ xs, Plain x) (i : Nat) : Plain (xs.getD i []) := by
  rw [List.getD_eq_getElem?_getD]
  cases e : xs[i]? with
  | none => exact ⟨Nat.zero_le _, fun _ h => nomatch h⟩
  | some x => exact h x (List.mem_of_getElem? e)
theorem StrsAre.get : ∀ {vs : List Value} {xs : List (List Nat)}, StrsAre vs xs → ∀ i, i < vs.length → ∃ t, vs[i]? = some (.str (S (xs.getD i [])) t)
  | _, _, .nil, i, hi => absurd hi (Nat.not_lt_zero _)
  | _, _, .cons (t := t) _, 0, _ => ⟨t, rfl⟩
  | _, _, .cons h, i + 1, hi => h.get i (Nat.lt_of_succ_lt_succ hi)
theorem item_strM {prog : Program} {w : World} {A : Around} {E : Value → Shared → Prop} {s : Shared} {h₀ : Heap} {L P : Addr} {news : List (Addr × Obj)} {vs : List Value} {xs : List (List Nat)} {c : Nat} {d k : Int} {u : Tok} {Q : Value → Shared → Prop} {value slice : Expr} (N : News h₀ L s.heap news) (hm : (P, listOf vs.toArray c) ∈ news) (hR : StrsAre vs xs) (hk : 0 < k) (h1 : k ≤ (xs.length : Int)) (hsz : xs.length ≤ 8)
    (h : ∀ t, Q (.str (S (xs.getD (d % k).toNat [])) t) s)
    (hs : subscripted slice false (.ref P) (.int (d.fmod k) u) = operate [.ref P, .int (d.fmod k) u] (getItem (.ref P) (.int (d.fmod k) u)) := by with_unfolding_all rfl) :
    wpAny (model prog w) A (subscriptTail value slice (.ref P) (.int (d.fmod k) u)) Q E s := by
  have e : d.fmod k = d % k := Int.fmod_eq_emod_of_nonneg d (by omega)
  have g0 := Int.emod_nonneg d (b := k) (by omega)
  have g1 := Int.emod_lt_of_pos d hk
  have hlen := hR.length
  obtain ⟨t, hv⟩ := hR.get (d % k).toNat (by omega)
  have hl : s.heap.IsList P vs.toArray := PySem.IsL.isList (n := c) (N _ hm).1
  rw [← e] at g0 g1
  refine tail_any hl.typeIs slot_list_getitem.lookup (wpAny_getItem_list hl g0 (by omega) (by rw [e]; simpa using hv) (h t)) hs

theorem plainAttrs_pat : PlainAttrs "re.Pattern" :=
  ⟨⟨"object.__getattribute__", by rw [typeLookup_type, builtinLookup_eq_fast]; kernel_rfl, by decide +kernel⟩, by rw [typeLookup_type, builtinLookup_eq_fast]; kernel_rfl⟩
theorem args_search (a b : Value) : argsOk "re.Pattern.search" ⟨[a, b], []⟩ := by
  unfold argsOk
  kernel_rfl
section
variable {prog : Program} {w : World} {A : Around} {E : Value → Shared → Prop} {s : Shared} {P : Addr} {v : List Nat} {t : Tok} {code : List Nat}
theorem Pat.obj {h : Heap} (x : Pat h P code) : ∃ o, h.get? P = some o ∧ o.dict = none ∧ o.cls = .type "re.Pattern" := by
  obtain ⟨fs, T, ws, n, h1, _⟩ := x
  exact ⟨_, h1, rfl, rfl⟩
theorem search_meth {pl : Sem Bool} {Q : Value × List Value → Shared → Prop} (hP : Pat s.heap P code) (h : Q (.builtin "re.Pattern.search", [.ref P]) s) : wpAny (model prog w) A (getMethod (.ref P) "search" pl) Q E s := by
  obtain ⟨o, h1, h2, h3⟩ := hP.obj
  exact getMethod_builtin ⟨o, h1, h3⟩ plainAttrs_pat slot_search type_search (fun a e => by cases e; exact ⟨o, h1, h2⟩) h
theorem search_call {Q : Value → Shared → Prop} (hP : Pat s.heap P code) (hd : Sre.M.hasFirstSet { code := code.toArray, text := (S v).cps, lim := 0, start := 0, pc := 0, pos := 0, handed := 0, marks := #[] } = true)
    (hc : ∀ c, 33 ≤ c → c < 127 → SetNo code.toArray c) (hv : Plain v) (h : Q .none s) : wpAny (model prog w) A (call (.builtin "re.Pattern.search") [.ref P, .str (S v) t]) Q E s := by
  obtain ⟨o, h1, _, h3⟩ := hP.obj
  refine call_meets slot_search ⟨o, h1, h3⟩ entry_search (args_search _ _) (meets_search (code := code) (by have := hv.1; simp [S]; omega) hd fun p hp => ?_) ⟨hP, h⟩
  have e : (S v).cps.getD p 0 ∈ v := by
    simp only [S] at hp ⊢
    simp at hp
    simp [hp]
  have := hv.2 _ e
  exact hc _ this.1 this.2
theorem search_n {Q : Value → Shared → Prop} (hP : Pat s.heap P nCode) (hv : Plain v) (h : Q .none s) : wpAny (model prog w) A (call (.builtin "re.Pattern.search") [.ref P, .str (S v) t]) Q E s := search_call hP rfl (fun _ => setNo_n) hv h
theorem search_v {Q : Value → Shared → Prop} (hP : Pat s.heap P vCode) (hv : Plain v) (h : Q .none s) : wpAny (model prog w) A (call (.builtin "re.Pattern.search") [.ref P, .str (S v) t]) Q E s := search_call hP rfl (fun _ => setNo_v) hv h
end
theorem join_one (sep x : Str) : Txt.join sep [x] = x := by
  show Builtin.Str.glued sep [x] = x
  rw [StrLaws.glued_eq_join]
  rfl
theorem join_call {prog : Program} {w : World} {A : Around} {E : Value → Shared → Prop} {s : Shared} {h₀ : Heap} {L D : Addr} {news : List (Addr × Obj)} {items : Array Value} {n : Nat} {v : List Nat} {sep : Str} {t tv : Tok} {Q : Value → Shared → Prop} (N : News h₀ L s.heap news) (hm : (D, listOf items n) ∈ news) (hi : items.toList = [.str (S v) tv]) (hv : Plain v) (hs : sep.length ≤ 10) (h : ∀ t' k, Q (.str (S v) t') { s with toks := k }) :
    wpAny (model prog w) A (call (.builtin "str.join") [.str sep t, .ref D]) Q E s := by
  refine join_list (ys := [S v]) (PySem.IsL.isList (n := n) (N _ hm).1) (hi ▸ .cons _ _ .nil) ?_ (fun t' k => by rw [join_one]; exact h t' k)
  have := hv.1
  simp [S_len]
  omega
theorem pat_v {w : World} {h : Heap} (X : (hd.heap_1 w.params).In h) : Pat h 53 vCode := by
  refine ⟨_, _, _, _, X 53 _ (by with_unfolding_all rfl), by with_unfolding_all rfl, rfl, rfl, X _ _ (by with_unfolding_all rfl), by decide +kernel⟩
theorem pat_n {w : World} {h : Heap} (X : (hd.heap_1 w.params).In h) : Pat h 48 nCode := by
  refine ⟨_, _, _, _, X 48 _ (by with_unfolding_all rfl), by with_unfolding_all rfl, rfl, rfl, X _ _ (by with_unfolding_all rfl), by decide +kernel⟩
local macro_rules | `(tactic| k_room) => `(tactic| ktr_room)
local macro_rules | `(tactic| k_mem) => `(tactic| with_reducible assumption)
theorem News.more3 {h₀ h : Heap} {L : Addr} {news : List (Addr × Obj)} {a b c : Addr × Obj} (N : News h₀ L h news) (ha : a ∈ news) (hb : b ∈ news) (hc : c ∈ news) : News h₀ L h (a :: b :: c :: news) := fun p hp => by
  rcases List.mem_cons.mp hp with rfl | hp
  · exact N _ ha
  rcases List.mem_cons.mp hp with rfl | hp
  · exact N _ hb
  rcases List.mem_cons.mp hp with rfl | hp
  · exact N _ hc
  exact N _ hp
local macro_rules | `(tactic| walk_at "getMethod ref") => `(tactic| ((with_reducible show wpAny _ _ (getMethod (Value.ref _) (PySem.Str.ofString "search") _) _ _ _); refine Hold.mk ?_))
local macro_rules | `(tactic| walk_at "call builtin:re.Pattern.search") => `(tactic| (refine Hold.mk ?_))
local macro_rules | `(tactic| walk_at "call builtin:str.join") => `(tactic| (refine Hold.mk ?_))
theorem AllLt.at {d : Addr} : ∀ {l : List (Addr × Obj)}, AllLt d l → ∀ p ∈ l, p.1 < d
  | [], _, _, h => nomatch h
  | _ :: _, x, p, h => by
    rcases List.mem_cons.mp h with rfl | h
    · exact x.1
    · exact AllLt.at x.2 p h
theorem UpdF.at {d : Addr} {o : Obj} {l : List (Addr × Obj)} {g : Obj → List (Addr × Obj)} (u : UpdF d o l g) (o' : Obj) : Upd d o o' l (g o') := by
  induction u with
  | head h => exact .head h
  | tail h _ ih => exact .tail h ih
theorem News.pick2 {h₀ h : Heap} {L : Addr} {news : List (Addr × Obj)} {a b c d e f g : Addr × Obj} (N : News h₀ L h (a :: b :: c :: d :: e :: f :: g :: news)) : News h₀ L h (a :: news) := fun p hp => by
  rcases List.mem_cons.mp hp with rfl | hp
  · exact N _ List.mem_cons_self
  · exact N _ (List.mem_cons_of_mem _ (List.mem_cons_of_mem _ (List.mem_cons_of_mem _ (List.mem_cons_of_mem _ (List.mem_cons_of_mem _ (List.mem_cons_of_mem _ (List.mem_cons_of_mem _ hp)))))))
abbrev tup2 (va vb : List Nat) (ta tb : Tok) : Obj := { cls := .type "tuple", data := .seq #[.str (S va) ta, .str (S vb) tb] }
abbrev hdDict (w : World) (HL : Addr) (tk : Tok) (n : Nat) : Obj := dictOf [{ hash := PyData.keyHash w.params (Str.ofString "_headers"), key := .str (Str.ofString "_headers") tk, val := .ref HL }] n
theorem add_use {w : World} {mean : ExcName → Option Value} {mg mb : Str → Option Value} {x dx HL : Addr} {tk ta tb : Tok} {va vb : List Nat} {its : Array Value} {n nd : Nat} {news : List (Addr × Obj)} {g : Obj → List (Addr × Obj)} {dp un : Nat} {gd : Option (List Code)} {cn : Str} {cs' : Scope} {a : Addr} {ccd : Value} {cl : List (Str × Addr)} {outer : List Env} {A₀ : Around} {base h₀ : Heap} {L : Addr} {m : Str → Option Value} {s : Shared} {Q E : Value → Shared → Prop}
   (hx : (x, instObj 182 dx) ∈ news) (hdx : (dx, hdDict w HL tk nd) ∈ news) (hHL : (HL, listOf its n) ∈ news) (U : UpdF HL (listOf its n) news g) (hn : its.size ≤ 100) (pa : Plain va) (pb : Plain vb) :
   Pre w mean mg mb cs' A₀ outer base h₀ L m news s.heap dp un 3 24 ((∀ (T : Addr) (t' u' : Tok) (h' : Heap) (tk' : Nat), Fr h₀ L h' m → News h₀ L h' ((T, tup2 va vb t' u') :: g (listOf (its.push (.ref T)) (n + 1))) → (∀ p ∈ news, p.1 < T) → Q .none { s with heap := h', toks := tk' }) →
    wpAny (model PW w) (ktrTop dp un gd cn cs' L a ccd cl outer) (call (.ref 179) [.ref x, .str (S va) ta, .str (S vb) tb]) Q E s) := by
  intro B F X N0 T hk hd hu hret
  have N : News h₀ L s.heap ((x, instObj 182 dx) :: (dx, hdDict w HL tk nd) :: (HL, listOf its n) :: news) := News.more3 N0 hx hdx hHL
  clear N0
  refine wpAny_call ?_
  k_with_none
  k_dflt (refine' kp_more ?k1 ?k2 ?k3 ?k4 ?k5 ?kA ?kF ?kK ?k6 ?k7 ?k8 ?kX ?kM ?kN ?kD ?kR ?kP ?kT ?kB ?_ ?c2 ?c3 ?c4 ?c5; (case kA => exact rfl); (case kF => exact rfl); (case kK => assumption); (case k1 => k_asm); (case k2 => k_asm); (case k3 => k_asm); (case k4 => k_asm); (case k5 => k_asm); (case k6 => k_is); (case k7 => k_is); (case k8 => ktr_room); (case kX => kp_lit); (case kM => exact rfl); (case kN => exact rfl); (case kD => kp_flats); (case kR => exact rfl); (case kP => exact rfl); (case kT => exact fun _ => rfl); (case kB => exact fun _ => locs rfl); (case c5 => decide); (case c2 => exact rfl); (case c3 => exact rfl); (case c4 => exact rfl); k_whole; intro D' o' g' L' h' tk' l1 lo' hs' fs' FG' F' N' B' X' T'; (try k_lt l1); (try dsimp only); (try k_lift B'); (try k_fold))
  (k_steps; repeat' (first | ((refine Hold.out ?_; first | (((try dsimp only); (with_reducible show wpAny _ _ (call (Value.builtin "str.join") _) _ _ _)); ((try dsimp only); k_here; k_dflt ((refine join_call (by k_asm) (by k_mem) (by rfl) (by assumption) (Nat.le_of_ble_eq_true rfl) ?_); intro _ _))) | (((try dsimp only); (with_reducible show wpAny _ _ (call (Value.builtin "re.Pattern.search") _) _ _ _)); ((try dsimp only); k_here; k_dflt (first | refine search_v (pat_v (by k_in)) (by assumption) ?_ | refine search_n (pat_n (by k_in)) (by assumption) ?_))) | ((with_reducible show wpAny _ _ (getMethod _ _ _) _ _ _); (k_here; (with_reducible show wpAny _ _ (getMethod (Value.ref _) (PySem.Str.ofString "search") _) _ _ _); k_dflt (first | refine search_meth (pat_v (by k_in)) ?_ | refine search_meth (pat_n (by k_in)) ?_)))); k_steps) | (refine gp_use (by assumption) ?_; (try dsimp only); k_steps)))
  rename Fr _ _ _ _ => F19
  rename News _ _ _ _ => N19
  rename _ < _ ∧ _ => hL
  have hT' := hL.2.2.2.2.2.1
  have hAll := AllLt.at hL.2.2.2.2.2.2
  have N20 := News.pick2 N19
  refine append_K F19 N20 (Upd.tail (Nat.ne_of_gt hT') (Mine.UpdF.at U _)) ?_ (Nat.le_trans hn (by rw [sizeLine_eq]; decide))
  intro h21 F21 N21
  clear F19 N19 N20
  (k_steps; repeat' (first | ((refine Hold.out ?_; first | (((try dsimp only); (with_reducible show wpAny _ _ (call (Value.builtin "str.join") _) _ _ _)); ((try dsimp only); k_here; k_dflt ((refine join_call (by k_asm) (by k_mem) (by rfl) (by assumption) (Nat.le_of_ble_eq_true rfl) ?_); intro _ _))) | (((try dsimp only); (with_reducible show wpAny _ _ (call (Value.builtin "re.Pattern.search") _) _ _ _)); ((try dsimp only); k_here; k_dflt (first | refine search_v (pat_v (by k_in)) (by assumption) ?_ | refine search_n (pat_n (by k_in)) (by assumption) ?_))) | ((with_reducible show wpAny _ _ (getMethod _ _ _) _ _ _); (k_here; (with_reducible show wpAny _ _ (getMethod (Value.ref _) (PySem.Str.ofString "search") _) _ _ _); k_dflt (first | refine search_meth (pat_v (by k_in)) ?_ | refine search_meth (pat_n (by k_in)) ?_)))); k_steps) | (refine gp_use (by assumption) ?_; (try dsimp only); k_steps)))
  exact hret _ _ _ _ _ (by k_asm) (by k_asm) hAll
end
-- T1 (7)
section
open PySem PySem.W PyProof.Rows
theorem News.second {h₀ h : Heap} {L a : Addr} {t : Addr × Obj} {o : Obj} {r : List (Addr × Obj)} (_N : News h₀ L h (t :: (a, o) :: r)) : ∃ x, x = a := ⟨a, rfl⟩
theorem News.first {h₀ h : Heap} {L a : Addr} {o : Obj} {r : List (Addr × Obj)} (_N : News h₀ L h ((a, o) :: r)) : ∃ x, x = a := ⟨a, rfl⟩
theorem table_end {h₀ : Heap} {L : Addr} {s₁ : Shared} {I HL T1 T2 : Addr} {oI oE o1 o2 oL oH : Obj} {tups base : List (Addr × Obj)} {rest : (Str → Option Value) → List (Addr × Obj) → Prop} {h' : Heap} {tk : Nat} {m' : Str → Option Value} (F : Fr h₀ L h' m')
    (N : News h₀ L h' ((T2, o2) :: (T1, o1) :: (I + 1, oE) :: (I, oI) :: (HL, oH) :: (tups ++ base))) (h1 : ∀ q ∈ (HL, oL) :: base, q.1 < I) (h2 : ∀ q ∈ tups, @LT.lt Nat _ (I + 1) q.1 ∧ @LT.lt Nat _ HL q.1) (hT1 : @LT.lt Nat _ (I + 1) T1) (hT2 : @LT.lt Nat _ (I + 1) T2)
    (r : rest m' ((HL, oH) :: (T2, o2) :: (T1, o1) :: (tups ++ base))) : UnrEndW h₀ L s₁ [(I + 1, oE), (I, oI)] rest { s₁ with heap := h', toks := tk } := by
  refine end_turn F N _ ?_ ?_ r
  · intro p hp
    rcases List.mem_cons.mp hp with rfl | hp
    · exact .tail _ (.tail _ (.head _))
    rcases List.mem_cons.mp hp with rfl | hp
    · exact .tail _ (.tail _ (.tail _ (.head _)))
    rcases List.mem_cons.mp hp with rfl | hp
    · exact .tail _ (.tail _ (.tail _ (.tail _ (.head _))))
    rcases List.mem_cons.mp hp with rfl | hp
    · exact .head _
    rcases List.mem_cons.mp hp with rfl | hp
    · exact .tail _ (.head _)
    · exact .tail _ (.tail _ (.tail _ (.tail _ (.tail _ hp))))
  · have lo : ∀ {x : Nat}, x < I → ∀ q ∈ [((I + 1 : Nat), oE), (I, oI)], x ≠ q.1 := fun {x} hx q hq => by
      rcases List.mem_cons.mp hq with rfl | hq
      · exact Nat.ne_of_lt (Nat.lt_succ_of_lt hx)
      · rw [List.mem_singleton.mp hq]; exact Nat.ne_of_lt hx
    have hi : ∀ {x : Nat}, I + 1 < x → ∀ q ∈ [((I + 1 : Nat), oE), (I, oI)], x ≠ q.1 := fun {x} hx q hq => by
      rcases List.mem_cons.mp hq with rfl | hq
      · exact Nat.ne_of_gt hx
      · rw [List.mem_singleton.mp hq]; exact Nat.ne_of_gt (Nat.lt_trans (Nat.lt_succ_self _) hx)
    intro p hp
    rcases List.mem_cons.mp hp with rfl | hp
    · exact lo (h1 (HL, oL) (.head _))
    rcases List.mem_cons.mp hp with rfl | hp
    · exact hi hT2
    rcases List.mem_cons.mp hp with rfl | hp
    · exact hi hT1
    rcases List.mem_append.mp hp with hp | hp
    · exact hi (h2 p hp).1
    · exact lo (h1 p (.tail _ hp))
theorem base2_ne {h₀ h : Heap} {L HL a b : Addr} {oH oa ob : Obj} {news : List (Addr × Obj)} (_N : News h₀ L h ((HL, oH) :: (a, oa) :: (b, ob) :: news)) (l8 : @LT.lt Nat _ a HL ∧ @LT.lt Nat _ b HL ∧ AllLt HL news) : ∀ q ∈ (a, oa) :: (b, ob) :: news, q.1 ≠ HL := fun q hq => by
  rcases List.mem_cons.mp hq with rfl | hq
  · exact Nat.ne_of_lt l8.1
  rcases List.mem_cons.mp hq with rfl | hq
  · exact Nat.ne_of_lt l8.2.1
  · exact Nat.ne_of_lt (AllLt.at l8.2.2 q hq)
theorem all_ne {HL : Addr} {tups base : List (Addr × Obj)} {I : Nat} (h1 : ∀ q ∈ tups, @LT.lt Nat _ (I + 1) q.1 ∧ @LT.lt Nat _ HL q.1) (h2 : ∀ q ∈ base, q.1 ≠ HL) : ∀ q ∈ tups ++ base, q.1 ≠ HL := fun q hq => by
  rcases List.mem_append.mp hq with hq | hq
  · exact Nat.ne_of_gt (h1 q hq).2
  · exact h2 q hq
theorem News.more2 {h₀ h : Heap} {L : Addr} {news : List (Addr × Obj)} {a b : Addr × Obj} (N : News h₀ L h news) (ha : a ∈ news) (hb : b ∈ news) : News h₀ L h (a :: b :: news) := fun p hp => by
  rcases List.mem_cons.mp hp with rfl | hp
  · exact N _ ha
  rcases List.mem_cons.mp hp with rfl | hp
  · exact N _ hb
  · exact N _ hp
theorem News.slim {h₀ h : Heap} {L : Addr} {r : List (Addr × Obj)} {a b c d e f : Addr × Obj} (N : News h₀ L h (a :: b :: c :: d :: e :: f :: r)) : News h₀ L h (a :: d :: r) := fun p hp => by
  rcases List.mem_cons.mp hp with rfl | hp
  · exact N _ (.head _)
  rcases List.mem_cons.mp hp with rfl | hp
  · exact N _ (.tail _ (.tail _ (.tail _ (.head _))))
  · exact N _ (.tail _ (.tail _ (.tail _ (.tail _ (.tail _ (.tail _ hp))))))
theorem item_lit {prog : Program} {w : World} {A : Around} {E : Value → Shared → Prop} {s : Shared} {h₀ : Heap} {L P : Addr} {news : List (Addr × Obj)} {vs : List Value} {c : Nat} {i : Int} {v : Value} {u : Tok} {Q : Value → Shared → Prop} {value slice : Expr} (N : News h₀ L s.heap news) (hm : (P, listOf vs.toArray c) ∈ news) (h0 : 0 ≤ i) (h1 : i < (vs.length : Int)) (hsz : vs.length ≤ 8) (hv : vs[i.toNat]? = some v)
    (h : Q v s)
    (hs : subscripted slice false (.ref P) (.int i u) = operate [.ref P, .int i u] (getItem (.ref P) (.int i u)) := by with_unfolding_all rfl) :
    wpAny (model prog w) A (subscriptTail value slice (.ref P) (.int i u)) Q E s := by
  have hl : s.heap.IsList P vs.toArray := PySem.IsL.isList (n := c) (N _ hm).1
  exact tail_any hl.typeIs slot_list_getitem.lookup (wpAny_getItem_list hl h0 (by omega) (by simpa using hv) h) hs
theorem item_next {prog : Program} {w : World} {A : Around} {E : Value → Shared → Prop} {s : Shared} {h₀ : Heap} {L P : Addr} {news : List (Addr × Obj)} {vs : List Value} {xs : List (List Nat)} {c k : Nat} {u : Tok} {Q : Value → Shared → Prop} {value slice : Expr} (N : News h₀ L s.heap news) (hm : (P, listOf vs.toArray c) ∈ news) (hR : StrsAre vs xs) (h1 : k + 1 < xs.length) (hsz : xs.length ≤ 8)
    (h : ∀ t, Q (.str (S (xs.getD (k + 1) [])) t) s)
    (hs : subscripted slice false (.ref P) (.int ((k : Int) + 1) u) = operate [.ref P, .int ((k : Int) + 1) u] (getItem (.ref P) (.int ((k : Int) + 1) u)) := by with_unfolding_all rfl) :
    wpAny (model prog w) A (subscriptTail value slice (.ref P) (.int ((k : Int) + 1) u)) Q E s := by
  have hlen := hR.length
  obtain ⟨t, hv⟩ := hR.get (k + 1) (by omega)
  exact item_lit N hm (by omega) (by omega) (by omega) (by rw [show ((k : Int) + 1).toNat = k + 1 from by omega]; exact hv) (h t) hs
inductive TupsAre (news : List (Addr × Obj)) : List Value → List (List Nat × List Nat) → Prop
  | nil : TupsAre news [] []
  | cons {T : Addr} {x y : List Nat} {t u : Tok} {vs : List Value} {ps : List (List Nat × List Nat)} : (T, tup2 x y t u) ∈ news → TupsAre news vs ps → TupsAre news (.ref T :: vs) ((x, y) :: ps)
theorem TupsAre.len {news : List (Addr × Obj)} : ∀ {vs : List Value} {ps : List (List Nat × List Nat)}, TupsAre news vs ps → vs.length = ps.length
  | _, _, .nil => rfl
  | _, _, .cons _ h => congrArg (· + 1) h.len
theorem TupsAre.sub {news more : List (Addr × Obj)} (k : ∀ p ∈ news, p ∈ more) : ∀ {vs : List Value} {ps : List (List Nat × List Nat)}, TupsAre news vs ps → TupsAre more vs ps
  | _, _, .nil => .nil
  | _, _, .cons hm h => .cons (k _ hm) (h.sub k)
theorem TupsAre.snoc {news : List (Addr × Obj)} {T : Addr} {x y : List Nat} {t u : Tok} (hm : (T, tup2 x y t u) ∈ news) : ∀ {vs : List Value} {ps : List (List Nat × List Nat)}, TupsAre news vs ps → TupsAre news (vs ++ [.ref T]) (ps ++ [(x, y)])
  | _, _, .nil => .cons hm .nil
  | _, _, .cons hx h => .cons hx (h.snoc hm)
def TableAt (w : World) (news : List (Addr × Obj)) (H : Addr) (ps : List (List Nat × List Nat)) : Prop :=
  ∃ dx HL tk nd ts n, (H, instObj 182 dx) ∈ news ∧ (dx, hdDict w HL tk nd) ∈ news ∧ (HL, listOf (List.toArray ts) n) ∈ news ∧ TupsAre news ts ps
def lowL (l : List Nat) : List Nat := l.map lowA
def aboveOf (nm : List (List Nat)) (d : Int) (k : Int) : List Nat := nm.getD (d % k).toNat []
def pairsOf (n0 n1 n2 n3 n4 : List Nat) (d0 d1 d2 d3 : Int) : List (List Nat × List Nat) :=
  let nm := [n0, n1, n2, n3, n4]
  [(lowL (aboveOf nm d0 1), n1), (n1, aboveOf nm d0 1), (lowL (aboveOf nm d1 2), n2), (n2, aboveOf nm d1 2), (lowL (aboveOf nm d2 3), n3), (n3, aboveOf nm d2 3), (lowL (aboveOf nm d3 4), n4), (n4, aboveOf nm d3 4)]
/-- the headers of the ties from the k-th on -/
def tabOf (nm : List (List Nat)) : Nat → List Int → List (List Nat × List Nat)
  | _, [] => []
  | k, d :: r => (lowL (aboveOf nm d ((k : Int) + 1)), nm.getD (k + 1) []) :: (nm.getD (k + 1) [], aboveOf nm d ((k : Int) + 1)) :: tabOf nm (k + 1) r
theorem tabOf_snoc (nm : List (List Nat)) (d : Int) : ∀ (pre : List Int) (k : Nat), tabOf nm k (pre ++ [d]) = tabOf nm k pre ++ [(lowL (aboveOf nm d ((k + pre.length : Nat) + 1)), nm.getD (k + pre.length + 1) [])] ++ [(nm.getD (k + pre.length + 1) [], aboveOf nm d ((k + pre.length : Nat) + 1))]
  | [], k => rfl
  | e :: r, k => by
    rw [List.cons_append, tabOf, tabOf, tabOf_snoc nm d r (k + 1), List.length_cons, show k + 1 + r.length = k + (r.length + 1) from by omega]
    rfl
theorem tabOf_len (nm : List (List Nat)) : ∀ (pre : List Int) (k : Nat), (tabOf nm k pre).length = 2 * pre.length
  | [], _ => rfl
  | _ :: r, k => by rw [tabOf, List.length_cons, List.length_cons, tabOf_len nm r (k + 1), List.length_cons]; omega
theorem tab_four (n0 n1 n2 n3 n4 : List Nat) (d0 d1 d2 d3 : Int) : tabOf [n0, n1, n2, n3, n4] 0 [d0, d1, d2, d3] = pairsOf n0 n1 n2 n3 n4 d0 d1 d2 d3 := rfl
theorem intVals_eq : ∀ (vs : List Value) (a : Nat), enumItems a vs = (vs.zipIdx a).map fun p => (fun (i : Nat) (v : Value) => Itm.pair (fun t => .int (i : Int) t) v) p.2 p.1
  | [], _ => rfl
  | v :: r, a => by rw [enumItems, intVals_eq r (a + 1), List.zipIdx_cons]; rfl
section
variable {prog : Program} {w : World} {A : Around} {E : Value → Shared → Prop} {s : Shared} {env : Env} {h₀ : Heap} {body : List Stmt} {Q : Flow → Shared → Prop} {target : Expr}
/-- the ties' loop: it grows the headers' list by two tuples a turn -/
theorem ir_table {ws : List (Addr × String)} {keep base : List (Addr × Obj)} {nm : List (List Nat)} {ds : List (Int × Tok)} (st : List Str) {HL : Addr} {m₀ : Str → Option Value} {n₀ : Nat} (Pa : Addr → Prop)
    (step : ∀ (pre : List (Int × Tok)) (a : Int × Tok) (r : List (Int × Tok)) (u : Str → Option Value) (ts : List Value) (n : Nat) (tups : List (Addr × Obj)) (items : List Itm), ds = pre ++ a :: r → TupsAre tups ts (tabOf nm 0 (pre.map (·.1))) → (∀ q ∈ tups, Pa q.1) →
      (∀ m' T1 T2 x1 y1 x2 y2 t1 u1 t2 u2 n', x1 = lowL (aboveOf nm a.1 ((pre.length : Int) + 1)) → y1 = nm.getD (pre.length + 1) [] → x2 = y1 → y2 = aboveOf nm a.1 ((pre.length : Int) + 1) → Pa T1 → Pa T2 → (∀ z : Str, st.contains z = false → m' z = m₀ z) →
        ItemsRest prog w A E h₀ env target body Q s ws keep items m' ((HL, listOf (List.toArray (ts ++ [.ref T1] ++ [.ref T2])) n') :: (T2, tup2 x2 y2 t2 u2) :: (T1, tup2 x1 y1 t1 u1) :: (tups ++ base))) →
      ItemsRest prog w A E h₀ env target body Q s ws keep (Itm.pair (fun t => .int (pre.length : Int) t) (.int a.1 a.2) :: items) (fun z => if st.contains z then u z else m₀ z) ((HL, listOf (List.toArray ts) n) :: (tups ++ base)))
    (fin : ∀ (u : Str → Option Value) (ts : List Value) (n : Nat) (tups : List (Addr × Obj)), TupsAre tups ts (tabOf nm 0 (ds.map (·.1))) → (∀ q ∈ tups, Pa q.1) → ItemsRest prog w A E h₀ env target body Q s ws keep [] (fun z => if st.contains z then u z else m₀ z) ((HL, listOf (List.toArray ts) n) :: (tups ++ base))) :
    ItemsRest prog w A E h₀ env target body Q s ws keep (((ds.map fun a => Value.int a.1 a.2).zipIdx 0).map fun p => (fun (i : Nat) (v : Value) => Itm.pair (fun t => .int (i : Int) t) v) p.2 p.1) m₀ ((HL, listOf (List.toArray []) n₀) :: base) := by
  have e : ∀ (l : List (Int × Tok)) (k : Nat), (((l.map fun a => Value.int a.1 a.2).zipIdx k).map fun p => (fun (i : Nat) (v : Value) => Itm.pair (fun t => .int (i : Int) t) v) p.2 p.1) = (l.zipIdx k).map fun p => (fun (i : Nat) (a : Int × Tok) => Itm.pair (fun t => .int (i : Int) t) (.int a.1 a.2)) p.2 p.1 := by
    intro l
    induction l with
    | nil => intro k; rfl
    | cons a r ih => intro k; rw [List.map_cons, List.zipIdx_cons, List.zipIdx_cons, List.map_cons, List.map_cons, ih (k + 1)]
  rw [e ds 0]
  refine IR_ind (f := fun (i : Nat) (a : Int × Tok) => Itm.pair (fun t => .int (i : Int) t) (.int a.1 a.2)) (fun pre m nw => (∃ ts n tups, nw = (HL, listOf (List.toArray ts) n) :: (tups ++ base) ∧ TupsAre tups ts (tabOf nm 0 (pre.map (·.1))) ∧ ∀ q ∈ tups, Pa q.1) ∧ ∀ z : Str, st.contains z = false → m z = m₀ z) ?_ ?_ [] ds m₀ _ rfl
    ⟨⟨[], n₀, [], rfl, .nil, fun _ h => nomatch h⟩, fun _ _ => rfl⟩
  · rintro pre a r m nw items e ⟨⟨ts, n, tups, rfl, hS, hne⟩, h2⟩ IH
    obtain ⟨u, rfl⟩ := frame_form0 h2
    refine step pre a r u ts n tups items e hS hne fun m' T1 T2 x1 y1 x2 y2 t1 u1 t2 u2 n' hx1 hy1 hx2 hy2 hp1 hp2 h3 => ?_
    subst hx1 hx2 hy1 hy2
    have hmem : ∀ q ∈ tups, q ∈ (T2, tup2 (nm.getD (pre.length + 1) []) (aboveOf nm a.1 ((pre.length : Int) + 1)) t2 u2) :: (T1, tup2 (lowL (aboveOf nm a.1 ((pre.length : Int) + 1))) (nm.getD (pre.length + 1) []) t1 u1) :: tups := fun q hq => .tail _ (.tail _ hq)
    refine IH m' ((HL, listOf (List.toArray (ts ++ [.ref T1] ++ [.ref T2])) n') :: (((T2, tup2 (nm.getD (pre.length + 1) []) (aboveOf nm a.1 ((pre.length : Int) + 1)) t2 u2) :: (T1, tup2 (lowL (aboveOf nm a.1 ((pre.length : Int) + 1))) (nm.getD (pre.length + 1) []) t1 u1) :: tups) ++ base)) ⟨⟨_, _, _, rfl, ?_, ?_⟩, h3⟩
    · rw [List.map_append, List.map_singleton, tabOf_snoc, List.length_map, Nat.zero_add]
      exact ((hS.sub hmem).snoc (.tail _ (.head _))).snoc (.head _)
    · intro q hq
      rcases List.mem_cons.mp hq with rfl | hq
      · exact hp2
      rcases List.mem_cons.mp hq with rfl | hq
      · exact hp1
      · exact hne q hq
  · rintro m nw ⟨⟨ts, n, tups, rfl, hS, hne⟩, h2⟩
    obtain ⟨u, rfl⟩ := frame_form0 h2
    exact fin u ts n tups hS hne
end
local macro_rules | `(tactic| k_room) => `(tactic| ktr_room)
local macro_rules | `(tactic| walk_at "call ref") => `(tactic| (refine Hold.mk ?_))
local macro_rules | `(tactic| walk_at "exec For Tuple Call cons nil") => `(tactic| (refine Hold.mk ?_))
local macro_rules | `(tactic| walk_at "call type:enumerate") => `(tactic| (refine Hold.mk ?_))
local macro_rules | `(tactic| walk_at "subscriptTail Name BinOp ref int") => `(tactic| (refine Hold.mk ?_))
local macro_rules | `(tactic| walk_at "call builtin:str.lower") => `(tactic| (refine Hold.mk ?_))
local macro_rules | `(tactic| walk_at "UnrEndW") => `(tactic| (refine Hold.mk ?_))
local macro_rules | `(tactic| walk_at "pyIter ref") => `(tactic| (refine Hold.mk ?_))
theorem table_use {w : World} {mean : ExcName → Option Value} {mg mb : Str → Option Value} {Dd Nm : Addr} {news : List (Addr × Obj)} {c0 c1 : Nat} {d0 d1 d2 d3 : Int} {t0 t1 t2 t3 u0 u1 u2 u3 u4 : Tok} {n0 n1 n2 n3 n4 : List Nat} {dp un : Nat} {gd : Option (List Code)} {cn : Str} {cs' : Scope} {a : Addr} {ccd : Value} {cl : List (Str × Addr)} {outer : List Env} {A₀ : Around} {base h₀ : Heap} {L : Addr} {m : Str → Option Value} {s : Shared} {Q E : Value → Shared → Prop}
   (hDd : (Dd, listOf #[.int d0 t0, .int d1 t1, .int d2 t2, .int d3 t3] c0) ∈ news) (hNm : (Nm, listOf #[.str (S n0) u0, .str (S n1) u1, .str (S n2) u2, .str (S n3) u3, .str (S n4) u4] c1) ∈ news) (hP : ∀ x ∈ [n0, n1, n2, n3, n4], Plain x) :
   Pre w mean mg mb cs' A₀ outer base h₀ L m news s.heap dp un 30 240 ((∀ (H : Addr) (h' : Heap) (tk' : Nat) (new : List (Addr × Obj)), Fr h₀ L h' m → News h₀ L h' new → TableAt w new H (pairsOf n0 n1 n2 n3 n4 d0 d1 d2 d3) → (∀ p ∈ news, p ∈ new) → Q (.ref H) { s with heap := h', toks := tk' }) →
    wpAny (model PW w) (ktrTop dp un gd cn cs' L a ccd cl outer) (call (.ref 268) [.ref Dd, .ref Nm]) Q E s) := by
  intro B F X N T hk hd hu hret
  have hNs : StrsAre [.str (S n0) u0, .str (S n1) u1, .str (S n2) u2, .str (S n3) u3, .str (S n4) u4] [n0, n1, n2, n3, n4] := .cons (.cons (.cons (.cons (.cons .nil))))
  refine wpAny_call ?_
  k_with_none
  k_dflt cell_enter
  (k_steps; repeat' (first | (refine gp_use (by assumption) ?_; (try dsimp only); k_steps)))
  refine Hold.out ?_
  (k_dflt (refine' call_cls ?k1 ?k2 ?k3 ?k4 ?k5 ?k6 ?_; (case k1 => k_asm); (case k2 => k_asm); (case k3 => k_asm); (case k4 => k_is); (case k5 => k_is); (case k6 => k_is); k_whole; intro x' d' h' F' N' l1 l2; (try k_lt l1); (try k_lt2 l2); (try k_sweep); k_enter))
  (k_steps; repeat' (first | (refine gp_use (by assumption) ?_; (try dsimp only); k_steps)))
  rename Fr _ _ _ _ => F3
  refine For_turns F3 ?_
  (k_steps; repeat' (first | (refine gp_use (by assumption) ?_; (try dsimp only); k_steps)))
  refine Hold.out ?_
  rename Fr _ _ _ _ => F4
  rename News _ _ _ _ => N4
  refine iter_listTurns (lo := listOf (List.toArray []) 0) (vs := []) (by rfl) F4 N4 (by k_mem) (by rfl) (by rfl) ?_
  intro I5 hI5
  (k_steps; repeat' (first | (refine gp_use (by assumption) ?_; (try dsimp only); k_steps)))
  refine Hold.out ?_
  rename Fr _ _ _ _ => F6
  refine For_turns F6 ?_
  (k_steps; repeat' (first | (refine gp_use (by assumption) ?_; (try dsimp only); k_steps)))
  refine Hold.out ?_
  rename Fr _ _ _ _ => F7
  rename News _ _ _ _ => N7
  obtain ⟨HL, hHL⟩ := News.first N7
  subst hHL
  rename x' < HL ∧ _ => l8
  have hb8 := base2_ne N7 l8
  refine ktu_enum (lo := listOf #[.int d0 t0, .int d1 t1, .int d2 t2, .int d3 t3] c0) (vs := [.int d0 t0, .int d1 t1, .int d2 t2, .int d3 t3]) (by rfl) F7 N7 (.tail _ (.tail _ (.tail _ hDd))) (by rfl) (by rfl) (intVals_eq _ 0) ?_
  intro I8 hI8
  refine ir_table (nm := [n0, n1, n2, n3, n4]) (ds := [(d0, t0), (d1, t1), (d2, t2), (d3, t3)]) ["place", "draw", "above"] (fun T => I8 + 1 < T ∧ HL < T) ?_ ?_
  · intro pre a9 r9 uu ts n tups items e9 hTu hPa IH
    have hp4 : pre.length < 4 := by have := congrArg List.length e9; simp at this; omega
    have hts : ts.length ≤ 6 := by rw [hTu.len, tabOf_len, List.length_map]; omega
    have hpl := plain_getD hP (a9.1 % ((pre.length : Int) + 1)).toNat
    have hpn := plain_getD hP (pre.length + 1)
    generalize hgp : pre.length = p at *
    have hIL : HL ≠ I8 := Nat.ne_of_lt (hI8 _ (.head _))
    have hIL1 : I8 + 1 ≠ HL := Nat.ne_of_gt (Nat.lt_succ_of_lt (hI8 _ (.head _)))
    have hne9 := all_ne hPa hb8
    have hx8 : x' ≠ HL := Nat.ne_of_lt l8.1
    have hd8 : d' ≠ HL := Nat.ne_of_lt l8.2.1
    (k_steps; repeat' (first | (refine gp_use (by assumption) ?_; (try dsimp only); k_steps)))
    refine Hold.out ?_
    rename News _ _ _ _ => N9
    refine item_strM N9 (.tail _ (.tail _ (.tail _ (List.mem_append_right _ (.tail _ (.tail _ hNm)))))) hNs (by omega) (by show _ ≤ ((5 : Nat) : Int); omega) (Nat.le_of_ble_eq_true rfl) ?_
    intro t9
    have N9h := News.more2 N9 (.tail _ (.tail _ (.tail _ (List.mem_append_right _ (.head _))))) (.tail _ (.tail _ (.tail _ (List.mem_append_right _ (.tail _ (.head _))))))
    clear N9
    (k_steps; repeat' (first | (refine gp_use (by assumption) ?_; (try dsimp only); k_steps)))
    refine Hold.out ?_
    (try dsimp only)
    refine KXw.lower (lower_S hpl) (lower_Sfits hpl) ?_
    intro _ _
    (k_steps; repeat' (first | (refine gp_use (by assumption) ?_; (try dsimp only); k_steps)))
    refine Hold.out ?_
    rename News _ _ _ _ => N10
    refine item_next N10 (.tail _ (.tail _ (.tail _ (.tail _ (.tail _ (List.mem_append_right _ (.tail _ (.tail _ hNm)))))))) hNs (by show _ < 5; omega) (Nat.le_of_ble_eq_true rfl) ?_
    intro t10
    (k_steps; repeat' (first | (refine gp_use (by assumption) ?_; (try dsimp only); k_steps)))
    refine Hold.out ?_
    rename Fr _ _ _ _ => F11
    refine add_use (.head _) (.tail _ (.head _)) (.tail _ (.tail _ (.tail _ (.tail _ (.head _))))) (UpdF.tail hx8 (UpdF.tail hd8 (UpdF.tail hIL1 (UpdF.tail (Ne.symm hIL) (UpdF.head hne9))))) (by rw [List.size_toArray]; omega) (plain_low hpl) hpn (by k_asm) F11 (by k_asm) N10 (by k_asm) (by first | exact rfl | assumption) (by ktr_room) (by ktr_units) ?_
    intro A1 a1 b1 h12 tk12 F12 N12 l12
    rw [List.push_toArray] at N12
    have lA1 : I8 + 1 < A1 := l12 (I8 + 1, _) (.tail _ (.tail _ (.head _)))
    have lA2 : HL < A1 := l12 (HL, _) (.tail _ (.tail _ (.tail _ (.tail _ (.head _)))))
    have N12h := News.more2 N12 (.tail _ (.head _)) (.tail _ (.tail _ (.head _)))
    clear N10 F11 l12 N12
    (k_steps; repeat' (first | (refine gp_use (by assumption) ?_; (try dsimp only); k_steps)))
    refine Hold.out ?_
    rename News _ _ _ _ => N13
    refine item_next N13 (.tail _ (.tail _ (.tail _ (.tail _ (.tail _ (.tail _ (.tail _ (.tail _ (List.mem_append_right _ (.tail _ (.tail _ hNm))))))))))) hNs (by show _ < 5; omega) (Nat.le_of_ble_eq_true rfl) ?_
    intro t13
    (k_steps; repeat' (first | (refine gp_use (by assumption) ?_; (try dsimp only); k_steps)))
    refine Hold.out ?_
    rename Fr _ _ _ _ => F14
    refine add_use (.head _) (.tail _ (.head _)) (.tail _ (.tail _ (.tail _ (.tail _ (.tail _ (.tail _ (.tail _ (.head _)))))))) (UpdF.tail hx8 (UpdF.tail hd8 (UpdF.tail (Nat.ne_of_gt lA2) (UpdF.tail hx8 (UpdF.tail hd8 (UpdF.tail hIL1 (UpdF.tail (Ne.symm hIL) (UpdF.head hne9)))))))) (by rw [List.size_toArray, List.length_append]; simp only [List.length_cons, List.length_nil]; omega) hpn hpl (by k_asm) F14 (by k_asm) N13 (by k_asm) (by first | exact rfl | assumption) (by ktr_room) (by ktr_units) ?_
    intro A2 a2 b2 h15 tk15 F15 N15 l15
    rw [List.push_toArray] at N15
    have lA3 : I8 + 1 < A2 := l15 (I8 + 1, _) (.tail _ (.tail _ (.tail _ (.tail _ (.tail _ (.head _))))))
    have lA4 : HL < A2 := l15 (HL, _) (.tail _ (.tail _ (.tail _ (.tail _ (.tail _ (.tail _ (.tail _ (.head _))))))))
    have N15h := News.slim N15
    clear N13 F14 l15 N15
    (k_steps; repeat' (first | (refine gp_use (by assumption) ?_; (try dsimp only); k_steps)))
    refine Hold.out ?_
    rename Fr _ _ _ _ => F16
    rename News _ _ _ _ => N16
    refine table_end F16 N16 hI8 hPa lA1 lA3 ⟨⟨?_, trivial⟩, IH _ _ _ _ _ _ _ _ _ _ _ _ rfl rfl rfl rfl ⟨lA1, lA2⟩ ⟨lA3, lA4⟩ ?_⟩
    · exact .tail _ (.tail _ (.tail _ (List.mem_append_right _ (.tail _ (.tail _ hDd)))))
    · intro z g3
      have g4 := g3
      simp only [List.contains_cons, List.contains_nil, Bool.or_false, Bool.or_eq_false_iff, beq_eq_false_iff_ne, ne_eq] at g4
      simp [g4, kstB]
  · intro uu ts n tups hTu hPa
    (k_steps; repeat' (first | (refine gp_use (by assumption) ?_; (try dsimp only); k_steps)))
    rename Fr h₀ _ _ _ => F20
    rename News h₀ _ _ _ => N20
    refine hret _ _ _ _ F20 N20 ⟨d', HL, _, _, ts, n, .tail _ (List.mem_append_right _ (.head _)), .tail _ (List.mem_append_right _ (.tail _ (.head _))), .head _, ?_⟩ fun q hq => .tail _ (List.mem_append_right _ (.tail _ (.tail _ hq)))
    rw [← tab_four]
    exact hTu.sub fun q hq => .tail _ (List.mem_append_left _ hq)
end
-- G1 (6)
section
open PySem PySem.W PyProof.Rows
local macro_rules | `(tactic| k_room) => `(tactic| ktr_room)
local macro_rules | `(tactic| walk_at "getMethod ref") => `(tactic| ((with_reducible show wpAny _ _ (getMethod (Value.ref _) (PySem.Str.ofString "search") _) _ _ _); refine Hold.mk ?_))
local macro_rules | `(tactic| walk_at "call builtin:re.Pattern.search") => `(tactic| (refine Hold.mk ?_))
local macro_rules | `(tactic| walk_at "call builtin:str.lower") => `(tactic| (refine Hold.mk ?_))
open PySem.Spec PySem.Calls LCg in
theorem compRestT_ind {prog : Program} {w : World} {A : Around} {s : Shared} {h₀ : Heap} {L : Addr} {m : Str → Option Value} {env : Env} {ct elt : Expr} {x : Str} {scope : Scope} {cl : List (Str × Addr)} {S : List (Addr × Obj) → Prop} {P : Nat → Value → Prop} {Fin : List Value → List (Addr × Obj) → Prop} {n : Nat} {news : List (Addr × Obj)}
    (J : Nat → List Value → Prop) (h0 : J 0 [])
    (step : ∀ i ys v I oI C oC D m₂ h tk (E' : Value → Shared → Prop), i < n → J i ys → P i v → NsObj oC m₂ → m₂ x = some v → Fr h₀ L h m → News h₀ L h ((I, oI) :: (C, oC) :: (D, lst ys) :: news) → Off3 I C D news → ((@Ne Nat I C) ∧ (@Ne Nat I D) ∧ (@Ne Nat C D)) →
      wpAny (model prog w) A (isTrue ct (compEnvC scope cl C env) (eval ct (compEnvC scope cl C env))) (fun ok s' => if ok = true then
        wpAny (model prog w) A (eval elt (compEnvC scope cl C env)) (CompEnd h₀ L m { s with heap := h, toks := tk } I oI C oC D (lst ys) S (fun y news' => news' = news ∧ J (i + 1) (ys ++ [y]))) E' s'
        else CompEnd h₀ L m { s with heap := h, toks := tk } I oI C oC D (lst ys) S (fun _ news' => news' = news ∧ J (i + 1) ys) Value.none s') E' { s with heap := h, toks := tk })
    (fin : ∀ ys, J n ys → Fin ys news) : LCt.CompRestT prog w A h₀ L m env ct elt x scope cl s S P Fin n 0 [] news := by
  have H : ∀ k i ys, i + k = n → J i ys → LCt.CompRestT prog w A h₀ L m env ct elt x scope cl s S P Fin k i ys news := by
    intro k
    induction k with
    | zero => intro i ys hi hJ; exact LCt.CompRestT.zero (fin ys (by rw [Nat.add_zero] at hi; exact hi ▸ hJ))
    | succ k ih =>
      intro i ys hi hJ
      refine LCt.CompRestT.succ fun v I oI C oC D m₂ h tk E' hP hC hx F N off ne => ?_
      refine wpAny_mono (step i ys v I oI C oC D m₂ h tk E' (by omega) hJ hP hC hx F N off ne) (fun b s' hq => ?_) fun _ _ e => e
      cases b with
      | true =>
        simp only [if_true] at hq ⊢
        refine wpAny_mono hq (fun y s₃ hr => ?_) fun _ _ e => e
        obtain ⟨h', tk', news', e, F', N', o', hS, rfl, hJ'⟩ := hr
        exact ⟨h', tk', _, e, F', N', o', hS, ih (i + 1) _ (by omega) hJ'⟩
      | false =>
        simp only [Bool.false_eq_true, if_false] at hq ⊢
        obtain ⟨h', tk', news', e, F', N', o', hS, rfl, hJ'⟩ := hq
        exact ⟨h', tk', _, e, F', N', o', hS, ih (i + 1) _ (by omega) hJ'⟩
  exact H n 0 [] (Nat.zero_add n) h0
theorem TupsAre.length {news : List (Addr × Obj)} : ∀ {vs : List Value} {ps : List (List Nat × List Nat)}, TupsAre news vs ps → vs.length = ps.length
  | _, _, .nil => rfl
  | _, _, .cons _ h => congrArg (· + 1) h.length
theorem TupsAre.get {news : List (Addr × Obj)} : ∀ {vs : List Value} {ps : List (List Nat × List Nat)}, TupsAre news vs ps → ∀ {i : Nat} {v : Value}, vs[i]? = some v → ∃ T x y t u, v = .ref T ∧ (T, tup2 x y t u) ∈ news ∧ ps[i]? = some (x, y)
  | _, _, .nil, _, _, h => by simp at h
  | _, _, .cons hm _, 0, _, h => ⟨_, _, _, _, _, by simpa using h.symm, hm, rfl⟩
  | _, _, .cons _ hr, i + 1, v, h => hr.get (i := i) (by simpa using h)
def gets (ps : List (List Nat × List Nat)) (v : List Nat) : List (List Nat) := (ps.filter fun p => lowL p.1 == lowL v).map (·.2)
theorem gets_take {ps : List (List Nat × List Nat)} {v x y : List Nat} {i : Nat} (h : ps[i]? = some (x, y)) : gets (ps.take (i + 1)) v = gets (ps.take i) v ++ if lowL x = lowL v then [y] else [] := by
  rw [List.take_add_one, h]
  unfold gets
  rw [List.filter_append, List.map_append]
  congr 1
  by_cases e : lowL x = lowL v
  · simp [e]
  · simp [e]
theorem item_tup {prog : Program} {w : World} {A : Around} {E : Value → Shared → Prop} {s : Shared} {h₀ : Heap} {L T : Addr} {news : List (Addr × Obj)} {x y : List Nat} {t u tk : Tok} {k : Int} {j : Nat} {v : Value} {Q : Value → Shared → Prop} {value slice : Expr} (N : News h₀ L s.heap news) (hm : (T, tup2 x y t u) ∈ news) (hj : seqIndex? k 2 = some j) (hlo : -(2 ^ 63) ≤ k) (hhi : k < 2 ^ 63) (hv : [Value.str (S x) t, .str (S y) u][j]? = some v)
    (h : Q v s)
    (hs : subscripted slice false (.ref T) (.int k tk) = operate [.ref T, .int k tk] (getItem (.ref T) (.int k tk)) := by with_unfolding_all rfl) :
    wpAny (model prog w) A (subscriptTail value slice (.ref T) (.int k tk)) Q E s :=
  item_tupleT (l := [Value.str (S x) t, .str (S y) u]) (News.isTup N hm) hlo hhi hj hv h hs
theorem allNe {d c : Addr} {l : List (Addr × Obj)} (h : AllLt d l) (hc : @LE.le Nat _ d c) : ∀ p ∈ l, p.1 ≠ c := fun p hp => Nat.ne_of_lt (Nat.lt_of_lt_of_le (Mine.AllLt.at h p hp) hc)
local macro_rules | `(tactic| k_all) => `(tactic| exact allNe (by assumption) (by omega))
local macro_rules | `(tactic| walk_at "eval ListComp") => `(tactic| (refine Hold.mk ?_))
local macro_rules | `(tactic| walk_at "CompSrcT") => `(tactic| refine Hold.mk ?_)
local macro_rules | `(tactic| walk_at "subscriptTail Name Constant ref int") => `(tactic| (refine Hold.mk ?_))
theorem getall_use {w : World} {mean : ExcName → Option Value} {mg mb : Str → Option Value} {x dx HL : Addr} {tk ta : Tok} {va : List Nat} {ts : List Value} {ps : List (List Nat × List Nat)} {n nd : Nat} {news : List (Addr × Obj)} {dp un : Nat} {gd : Option (List Code)} {cn : Str} {cs' : Scope} {a : Addr} {ccd : Value} {cl : List (Str × Addr)} {outer : List Env} {A₀ : Around} {base h₀ : Heap} {L : Addr} {m : Str → Option Value} {s : Shared} {Q E : Value → Shared → Prop}
   (hx : (x, instObj 182 dx) ∈ news) (hdx : (dx, hdDict w HL tk nd) ∈ news) (hHL : (HL, listOf (List.toArray ts) n) ∈ news) (hT : TupsAre news ts ps) (hn : ts.length ≤ 100) (pa : Plain va) (pp : ∀ p ∈ ps, Plain p.1) :
   Pre w mean mg mb cs' A₀ outer base h₀ L m news s.heap dp un 3 24 ((∀ (D : Addr) (h' : Heap) (tk' : Nat) (ys : List Value) (c : Nat), Fr h₀ L h' m → News h₀ L h' ((D, listOf (List.toArray ys) c) :: news) → StrsAre ys (gets ps va) → Q (.ref D) { s with heap := h', toks := tk' }) →
    wpAny (model PW w) (ktrTop dp un gd cn cs' L a ccd cl outer) (call (.ref 121) [.ref x, .str (S va) ta]) Q E s) := by
  intro B F X N0 T hk hd hu hret
  have N : News h₀ L s.heap ((x, instObj 182 dx) :: (dx, hdDict w HL tk nd) :: (HL, listOf (List.toArray ts) n) :: news) := News.more3 N0 hx hdx hHL
  clear N0
  have hpv := plain_low pa
  refine wpAny_call ?_
  k_with_none
  k_dflt (refine' code_defC ?k1 ?k2 ?k3 ?k4 ?k5 ?kA ?kF ?kK ?k6 ?k7 ?k8 ?k9 ?kB ?kD ?_ ?c2 ?c3 ?c4; (case kA => exact rfl); (case kF => exact rfl); (case kK => assumption); (case k1 => k_asm); (case k2 => k_asm); (case k3 => k_asm); (case k4 => k_asm); (case k5 => k_asm); (case k6 => k_is); (case k7 => k_is); (case k8 => ktr_room); (case k9 => exact BindsTo.of_eq rfl); (case kB => exact rfl); (case kD => decide +kernel); (case c2 => exact rfl); (case c3 => exact rfl); (case c4 => exact rfl); k_whole; intro g' L' h' tk' cells' FG' F' N' Y' B' X' T' l1; (try k_lt l1); k_cells Y'; (try simp only [List.cons_append, List.nil_append] at N'); (try dsimp only); (try k_lift B'); (try k_fold))
  have hAll0 := l1.2.2.2
  (k_steps; repeat' (first | ((refine Hold.out ?_; first | ((with_reducible show wpAny _ _ (subscriptTail _ _ _ _) _ _ _); (k_here; (with_reducible show wpAny _ _ (subscriptTail _ _ (Value.ref _) (Value.int _ _)) _ _ _); (with_reducible rename News _ _ _ _ => zN9); k_dflt (refine item_tup zN9 (by repeat (first | assumption | refine List.mem_cons_of_mem _ ?_)) (by rfl) (by decide) (by decide) (by rfl) ?_ (by with_unfolding_all rfl)))) | ((with_reducible show wpAny _ _ (eval (Expr.ListComp _ _ _ _) _) _ _ _); (k_here; k_dflt (refine LCt.ListComp_T (F₀ := by k_asm) (by with_unfolding_all rfl) (by decide) (by rfl) (by decide) (by rfl) ?_))) | (((try dsimp only); (with_reducible show wpAny _ _ (call (Value.builtin "str.lower") _) _ _ _)); ((try dsimp only); k_here; (with_reducible show wpAny _ _ (call (Value.builtin "str.lower") [Value.str (S _) _]) _ _ _); (refine KXw.lower (lower_S (by assumption)) (lower_Sfits (by assumption)) ?_); intro _ _)) | (((try dsimp only); (with_reducible show wpAny _ _ (call (Value.builtin "re.Pattern.search") _) _ _ _)); ((try dsimp only); k_here; k_dflt (first | refine search_v (pat_v (by k_in)) (by assumption) ?_ | refine search_n (pat_n (by k_in)) (by assumption) ?_))) | ((with_reducible show wpAny _ _ (getMethod _ _ _) _ _ _); (k_here; (with_reducible show wpAny _ _ (getMethod (Value.ref _) (PySem.Str.ofString "search") _) _ _ _); k_dflt (first | refine search_meth (pat_v (by k_in)) ?_ | refine search_meth (pat_n (by k_in)) ?_)))); k_steps) | (refine gp_use (by assumption) ?_; (try dsimp only); k_steps)))
  refine Hold.out ?_
  rename Fr _ _ _ _ => F9
  rename News _ _ _ _ => N9
  refine LCt.CompSrcT.ledger (by rfl) F9 N9 (by k_mem) (by first | size_fits | exact Nat.le_trans hn (by rw [sizeLine_eq]; decide)) ?_
  intro g9
  refine compRestT_ind (fun i ys => StrsAre ys (gets (ps.take i) va)) .nil ?_ ?_
  · intro i ys v I oI C oC D m₂ h tk E' hi hJ hP hC hx' F' N' off ne
    obtain ⟨T9, x9, y9, t9, u9, rfl, hm9, hps⟩ := hT.get (i := i) (v := v) (by simpa using hP)
    have hp9 : Plain x9 := pp _ (List.mem_of_getElem? hps)
    have hg := gets_take (v := va) hps
    (k_steps; repeat' (first | ((refine Hold.out ?_; first | ((with_reducible show wpAny _ _ (subscriptTail _ _ _ _) _ _ _); (k_here; (with_reducible show wpAny _ _ (subscriptTail _ _ (Value.ref _) (Value.int _ _)) _ _ _); (with_reducible rename News _ _ _ _ => zN9); k_dflt (refine item_tup zN9 (by repeat (first | assumption | refine List.mem_cons_of_mem _ ?_)) (by rfl) (by decide) (by decide) (by rfl) ?_ (by with_unfolding_all rfl)))) | ((with_reducible show wpAny _ _ (eval (Expr.ListComp _ _ _ _) _) _ _ _); (k_here; k_dflt (refine LCt.ListComp_T (F₀ := by k_asm) (by with_unfolding_all rfl) (by decide) (by rfl) (by decide) (by rfl) ?_))) | (((try dsimp only); (with_reducible show wpAny _ _ (call (Value.builtin "str.lower") _) _ _ _)); ((try dsimp only); k_here; (with_reducible show wpAny _ _ (call (Value.builtin "str.lower") [Value.str (S _) _]) _ _ _); (refine KXw.lower (lower_S (by assumption)) (lower_Sfits (by assumption)) ?_); intro _ _)) | (((try dsimp only); (with_reducible show wpAny _ _ (call (Value.builtin "re.Pattern.search") _) _ _ _)); ((try dsimp only); k_here; k_dflt (first | refine search_v (pat_v (by k_in)) (by assumption) ?_ | refine search_n (pat_n (by k_in)) (by assumption) ?_))) | ((with_reducible show wpAny _ _ (getMethod _ _ _) _ _ _); (k_here; (with_reducible show wpAny _ _ (getMethod (Value.ref _) (PySem.Str.ofString "search") _) _ _ _); k_dflt (first | refine search_meth (pat_v (by k_in)) ?_ | refine search_meth (pat_n (by k_in)) ?_)))); k_steps) | (refine gp_use (by assumption) ?_; (try dsimp only); k_steps)))
    all_goals (
      rename News _ _ _ _ => N20
      refine LCg.CompEnd.intro (by assumption) N20 _ (by (intro p hp; repeat' (first | exact hp | refine List.Mem.tail _ ?_))) (by assumption) (.inr ⟨_, (by k_mem), rfl, _, rfl⟩) ⟨rfl, ?_⟩
      rw [hg]
      first
      | (rw [if_pos (S_inj (eq_of_beq (by assumption)))]; exact hJ.snoc)
      | (rw [if_neg (fun e => (beq_eq_false_iff_ne.mp (by assumption)) (congrArg S e)), List.append_nil]; exact hJ))
  · intro ys hy
    rw [List.size_toArray, hT.length, List.take_length] at hy
    (k_steps; repeat' (first | ((refine Hold.out ?_; first | ((with_reducible show wpAny _ _ (subscriptTail _ _ _ _) _ _ _); (k_here; (with_reducible show wpAny _ _ (subscriptTail _ _ (Value.ref _) (Value.int _ _)) _ _ _); (with_reducible rename News _ _ _ _ => zN9); k_dflt (refine item_tup zN9 (by repeat (first | assumption | refine List.mem_cons_of_mem _ ?_)) (by rfl) (by decide) (by decide) (by rfl) ?_ (by with_unfolding_all rfl)))) | ((with_reducible show wpAny _ _ (eval (Expr.ListComp _ _ _ _) _) _ _ _); (k_here; k_dflt (refine LCt.ListComp_T (F₀ := by k_asm) (by with_unfolding_all rfl) (by decide) (by rfl) (by decide) (by rfl) ?_))) | (((try dsimp only); (with_reducible show wpAny _ _ (call (Value.builtin "str.lower") _) _ _ _)); ((try dsimp only); k_here; (with_reducible show wpAny _ _ (call (Value.builtin "str.lower") [Value.str (S _) _]) _ _ _); (refine KXw.lower (lower_S (by assumption)) (lower_Sfits (by assumption)) ?_); intro _ _)) | (((try dsimp only); (with_reducible show wpAny _ _ (call (Value.builtin "re.Pattern.search") _) _ _ _)); ((try dsimp only); k_here; k_dflt (first | refine search_v (pat_v (by k_in)) (by assumption) ?_ | refine search_n (pat_n (by k_in)) (by assumption) ?_))) | ((with_reducible show wpAny _ _ (getMethod _ _ _) _ _ _); (k_here; (with_reducible show wpAny _ _ (getMethod (Value.ref _) (PySem.Str.ofString "search") _) _ _ _); k_dflt (first | refine search_meth (pat_v (by k_in)) ?_ | refine search_meth (pat_n (by k_in)) ?_)))); k_steps) | (refine gp_use (by assumption) ?_; (try dsimp only); k_steps)))
    rename News _ _ _ _ => N20
    refine hret _ _ _ ys ys.length (by k_asm) (fun p hp => N20 p ?_) hy
    rcases List.mem_cons.mp hp with rfl | hp
    · exact List.Mem.head _
    · repeat' (first | exact hp | refine List.Mem.tail _ ?_)
end
-- C7 (13)
section
open PySem PySem.W PyProof.Rows
def sub (c d : Nat) : Int := subst (S [c]) (S [d])

theorem ne_of_len {l : List Nat} (h : 0 < l.length) : l ≠ [] := by rintro rfl; simp at h
theorem w1_start {la lb : List Nat} (hl : la.length = lb.length) (hne : ¬ la = lb) : (0 : Int) ≤ 0 ∧ (0 : Int) < la.length ∧ la.take (0 : Int).toNat = lb.take (0 : Int).toNat := by
  refine ⟨Int.le_refl _, ?_, by simp⟩
  cases la with
  | nil => cases lb with
    | nil => exact absurd rfl hne
    | cons _ _ => simp at hl
  | cons _ _ => simp only [List.length_cons]; omega
theorem take_succ_eq {la lb : List Nat} {p : Nat} (hl : la.length = lb.length) (hp : p < la.length) (h : la.take p = lb.take p) (he : la.getD p 0 = lb.getD p 0) : la.take (p + 1) = lb.take (p + 1) := by
  rw [List.take_add_one, List.take_add_one, h]
  have h2 : p < lb.length := hl ▸ hp
  rw [List.getD_eq_getElem?_getD, List.getD_eq_getElem?_getD, List.getElem?_eq_getElem hp, List.getElem?_eq_getElem h2] at he
  rw [List.getElem?_eq_getElem hp, List.getElem?_eq_getElem h2]
  simp only [Option.getD_some] at he
  rw [he]
theorem w1_turn {la lb : List Nat} {pre : Int} (hl : la.length = lb.length) (hne : ¬ la = lb) (h0 : 0 ≤ pre) (h1 : pre < la.length) (h : la.take pre.toNat = lb.take pre.toNat) (he : [la.getD pre.toNat 0] = [lb.getD pre.toNat 0]) :
    0 ≤ pre + 1 ∧ pre + 1 < la.length ∧ la.take (pre + 1).toNat = lb.take (pre + 1).toNat := by
  have e : (pre + 1).toNat = pre.toNat + 1 := by omega
  have ht := take_succ_eq hl (by omega) h (List.cons.inj he).1
  rw [e]
  refine ⟨by omega, ?_, ht⟩
  have : pre.toNat + 1 ≠ la.length := fun q => hne (by
    rw [q, List.take_length] at ht
    rw [ht, hl, List.take_length])
  omega
local macro_rules | `(tactic| walk_at "subscriptTail Name Slice str ref") => `(tactic| (refine Hold.mk ?_))
local macro_rules | `(tactic| walk_at "subscriptTail Name Name str int") => `(tactic| (refine Hold.mk ?_))
local macro_rules | `(tactic| walk_at "truthy str") => `(tactic| (refine Hold.mk ?_))
local macro_rules | `(tactic| walk_at "compareOp Eq str str") => `(tactic| (refine Hold.mk ?_))
def T0 (l r : List Nat) : Int := (List.zipWith sub l r).sum
theorem sub_self (c : Nat) : sub c c = 0 := by simp [sub, subst]
theorem T0_drop {la lb : List Nat} {p : Nat} (hl : la.length = lb.length) (h : la.take p = lb.take p) : T0 la lb = T0 (la.drop p) (lb.drop p) := by
  induction p generalizing la lb with
  | zero => rfl
  | succ p ih =>
    cases la with
    | nil => cases lb with
      | nil => rfl
      | cons _ _ => simp at hl
    | cons a r => cases lb with
      | nil => simp at hl
      | cons b q =>
        simp only [List.take_succ_cons, List.cons.injEq] at h
        obtain ⟨rfl, h⟩ := h
        have := ih (by simpa using hl) h
        simp only [List.drop_succ_cons, ← this]
        simp [T0, sub_self]
theorem T0_append {a b c d : List Nat} (h : a.length = b.length) : T0 (a ++ c) (b ++ d) = T0 a b + T0 c d := by
  simp only [T0, List.zipWith_append h, List.sum_append]
theorem T0_self (a : List Nat) : T0 a a = 0 := by
  induction a with
  | nil => rfl
  | cons c r ih => simp only [T0, List.zipWith_cons_cons, List.sum_cons, sub_self, Int.zero_add]; exact ih
theorem T0_take {x y : List Nat} {j : Nat} (hl : x.length = y.length) (h : x.drop j = y.drop j) : T0 x y = T0 (x.take j) (y.take j) := by
  have e := T0_append (a := x.take j) (b := y.take j) (c := x.drop j) (d := y.drop j) (by simp only [List.length_take, hl])
  rw [List.take_append_drop, List.take_append_drop, h, T0_self, Int.add_zero] at e
  exact e
theorem w2_start {x y : List Nat} (hl : x.length = y.length) (hx : 0 < x.length) : (0 : Int) ≤ 0 ∧ -(0 : Int) < x.length ∧ x.drop (x.length - (-(0 : Int)).toNat) = y.drop (x.length - (-(0 : Int)).toNat) := by
  refine ⟨Int.le_refl _, by omega, ?_⟩
  simp only [Int.neg_zero, Int.toNat_zero, Nat.sub_zero]
  rw [List.drop_length, hl, List.drop_length]
theorem w2_turn {x y : List Nat} {post : Int} (hl : x.length = y.length) (hd : x.getD 0 0 ≠ y.getD 0 0) (h0 : post ≤ 0) (h1 : -post < (x.length : Int)) (h : x.drop (x.length - (-post).toNat) = y.drop (x.length - (-post).toNat))
    (he : [x.getD (x.length - (-(post - 1)).toNat) 0] = [y.getD (y.length - (-(post - 1)).toNat) 0]) :
    post - 1 ≤ 0 ∧ -(post - 1) < (x.length : Int) ∧ x.drop (x.length - (-(post - 1)).toNat) = y.drop (x.length - (-(post - 1)).toNat) := by
  have he' := (List.cons.inj he).1
  rw [← hl] at he'
  have e : x.length - (-post).toNat = x.length - (-(post - 1)).toNat + 1 := by omega
  have hlt : x.length - (-(post - 1)).toNat < x.length := by omega
  have hlt2 : x.length - (-(post - 1)).toNat < y.length := hl ▸ hlt
  refine ⟨by omega, ?_, ?_⟩
  · have : x.length - (-(post - 1)).toNat ≠ 0 := fun q => hd (by rw [q] at he'; exact he')
    omega
  · rw [e] at h
    rw [List.drop_eq_getElem_cons hlt, List.drop_eq_getElem_cons hlt2, h]
    rw [List.getD_eq_getElem?_getD, List.getD_eq_getElem?_getD, List.getElem?_eq_getElem hlt, List.getElem?_eq_getElem hlt2] at he'
    simp only [Option.getD_some] at he'
    rw [he']
local macro_rules | `(tactic| walk_at "eval Subscript Name Slice") => `(tactic| ((with_reducible show wpAny _ _ (eval (Expr.Subscript _ (Expr.Slice none (some (Expr.BoolOp _ _ _)) none _) _) _) _ _ _); refine Hold.mk ?_))
local macro_rules | `(tactic| walk_at "subscriptTail Name BinOp str int") => `(tactic| (refine Hold.mk ?_))
local macro_rules | `(tactic| walk_at "call builtin:len") => `(tactic| (refine Hold.mk ?_))
local macro_rules | `(tactic| walk_at "exec For Name Call cons nil") => `(tactic| k_extra "for")
def row0 (n : Nat) : List Int := (List.range n).map fun (i : Nat) => 2 + (i : Int) * 2
def T1 (x y : List Nat) (k : Nat) : Int := T0 (x.take k) (y.take k)
def Ed (x y : List Nat) (j i : Nat) : Int := 2 * (((i - j) + (j - i) : Nat) : Int) + T1 x y (min i j)
def rowJ (x y : List Nat) (j : Nat) : List Int := (List.range x.length).map fun (i : Nat) => Ed x y j (i + 1)
theorem o_start {x y : List Nat} {r : Int} : row0 x.length = rowJ x y ([] : List Int).length ∧ (([] : List Int) ≠ [] → r = Ed x y ([] : List Int).length x.length) := by
  refine ⟨?_, fun h => absurd rfl h⟩
  unfold row0 rowJ
  apply List.map_congr_left
  intro i _
  simp only [Ed, T1, List.length_nil, Nat.sub_zero, Nat.zero_sub, Nat.add_zero, Nat.min_zero, List.take_zero, T0, List.zipWith_nil_left, List.sum_nil]
  omega
theorem intsAre_of : ∀ (us : List Value) (f : Nat → Int) (n : Nat), us.length = n → (∀ (j : Nat) (v : Value), us[j]? = some v → ∃ t, v = .int (f j) t) → IntsAre us ((List.range n).map f)
  | [], f, n, e, _ => by subst e; exact .nil
  | v :: r, f, n, e, h => by
    subst e
    rw [List.length_cons, List.range_succ_eq_map, List.map_cons, List.map_map]
    obtain ⟨t, rfl⟩ := h 0 v rfl
    exact .cons _ _ (intsAre_of r (f ∘ Nat.succ) r.length rfl fun j v hj => h (j + 1) v hj)
theorem list_rng2 {prog : Program} {w : World} {A : Around} {E : Value → Shared → Prop} {s : Shared} {h₀ : Heap} {L r : Addr} {m : Str → Option Value} {news : List (Addr × Obj)} {n : Nat} {t₀ u₀ v₀ : Tok} {Q : Value → Shared → Prop}
    (hh : A.handled = none) (F : Fr h₀ L s.heap m) (N : News h₀ L s.heap news) (hr : IsRange s.heap r 2 (2 * ((n : Int) + 1)) 2 t₀ u₀ v₀) (h16 : n ≤ 16)
    (h : ∀ D us c h' tk, Fr h₀ L h' m → News h₀ L h' ((D, PySem.W.listOf (List.toArray us) c) :: news) → (∀ p ∈ news, p.1 < D) → IntsAre us (row0 n) → Q (.ref D) { s with heap := h', toks := tk }) :
    wpAny (model prog w) A (call (.type "list") [.ref r]) Q E s := by
  have hsm : Builtin.Range.small 2 (2 * ((n : Int) + 1)) 2 = true := by
    have : ∀ k : Fin 17, Builtin.Range.small 2 (2 * (((k.1 : Nat) : Int) + 1)) 2 = true := by decide +kernel
    exact this ⟨n, by omega⟩
  have hn : Builtin.Range.rangeSize 2 (2 * ((n : Int) + 1)) 2 = (n : Int) := by
    have : ∀ k : Fin 17, Builtin.Range.rangeSize 2 (2 * (((k.1 : Nat) : Int) + 1)) 2 = ((k.1 : Nat) : Int) := by decide +kernel
    exact this ⟨n, by omega⟩
  refine call_list_range hh hr hsm hn (by omega) fun h' tk acc c hk hD hI => ?_
  have hD' : h'.get? s.heap.objs.size = some (PySem.W.listOf (List.toArray acc.toList) c) := by
    rw [Array.toArray_toList]
    exact hD
  exact h _ acc.toList c h' tk (F.keeps hk) (news_pushed F N hk hD' rfl) (fun p hp => Heap.lt_size (N p hp).1) (intsAre_of acc.toList (fun (j : Nat) => 2 + (j : Int) * 2) n (by rw [Array.length_toList]; exact hI.1) fun j v hj => hI.2 j v (by rw [← hj, Array.getElem?_toList]))
local macro_rules | `(tactic| walk_at "call type:list") => `(tactic| (refine Hold.mk ?_))
theorem subst_comm (a b : Str) : subst a b = subst b a := by
  unfold subst; simp only [eq_comm]
theorem sub_comm (c d : Nat) : sub c d = sub d c := subst_comm _ _
theorem sub_range (c d : Nat) : 0 ≤ sub c d ∧ sub c d ≤ 2 := by
  unfold sub subst; split <;> (try split) <;> simp
theorem T1_succ {x y : List Nat} {k : Nat} (hl : x.length = y.length) (hk : k < x.length) : T1 x y (k + 1) = T1 x y k + sub (y.getD k 0) (x.getD k 0) := by
  unfold T1
  have h2 : k < y.length := hl ▸ hk
  rw [List.take_add_one, List.take_add_one, List.getElem?_eq_getElem hk, List.getElem?_eq_getElem h2]
  simp only [Option.toList_some]
  rw [T0_append (by simp only [List.length_take]; omega)]
  congr 1
  simp only [T0, List.zipWith_cons_cons, List.zipWith_nil_left, List.sum_cons, List.sum_nil, Int.add_zero, List.getD_eq_getElem?_getD, List.getElem?_eq_getElem hk, List.getElem?_eq_getElem h2, Option.getD_some]
  exact sub_comm _ _
theorem T1_mono {x y : List Nat} (hl : x.length = y.length) : ∀ (d k : Nat), k + d = x.length → T1 x y k ≤ T0 x y
  | 0, k, e => by
    have e1 : x.take k = x := by rw [List.take_of_length_le]; omega
    have e2 : y.take k = y := by rw [List.take_of_length_le]; omega
    unfold T1
    rw [e1, e2]
    exact Int.le_refl _
  | d + 1, k, e => by
    have := T1_mono hl d (k + 1) (by omega)
    rw [T1_succ hl (by omega)] at this
    have := sub_range (y.getD k 0) (x.getD k 0)
    omega
def Off (x y : List Nat) : Prop := ∀ i j, i < x.length → j < x.length → i ≠ j → sub (y.getD j 0) (x.getD i 0) = 2
theorem Off.drop {x y : List Nat} (hl : x.length = y.length) (h : Off x y) (p : Nat) : Off (x.drop p) (y.drop p) := by
  intro i j hi hj hij
  rw [List.length_drop] at hi hj
  have := h (p + i) (p + j) (by omega) (by omega) (by omega)
  simpa only [List.getD_eq_getElem?_getD, List.getElem?_drop] using this
theorem Off.take {x y : List Nat} (hl : x.length = y.length) (h : Off x y) (p : Nat) : Off (x.take p) (y.take p) := by
  intro i j hi hj hij
  rw [List.length_take] at hi hj
  have := h i j (by omega) (by omega) hij
  simp only [List.getD_eq_getElem?_getD, List.getElem?_take] at this ⊢
  rw [if_pos (by omega), if_pos (by omega)]
  exact this
theorem T1_zero (x y : List Nat) : T1 x y 0 = 0 := by simp [T1, T0]
theorem Ed_lt {x y : List Nat} {j i : Nat} (h : i ≤ j) : Ed x y j i = 2 * ((j : Int) - i) + T1 x y i := by
  unfold Ed; rw [show min i j = i from by omega]; omega
theorem Ed_ge {x y : List Nat} {j i : Nat} (h : j ≤ i) : Ed x y j i = 2 * ((i : Int) - j) + T1 x y j := by
  unfold Ed; rw [show min i j = j from by omega]; omega
theorem step_eq {x y : List Nat} {j i : Nat} (hl : x.length = y.length) (hoff : Off x y) (hi : i < x.length) (hj : j < x.length) {r d : Int}
    (hr : r = if i = 0 then 2 * (j : Int) else Ed x y (j + 1) i) (hd : d = Ed x y j i) :
    min (min r (Ed x y j (i + 1)) + 2) (d + sub (y.getD j 0) (x.getD i 0)) = Ed x y (j + 1) (i + 1) := by
  subst hd
  have h0 := T1_zero x y
  have hs := sub_range (y.getD j 0) (x.getD i 0)
  rcases Nat.lt_trichotomy i j with h | h | h
  · rw [hoff i j hi hj (Nat.ne_of_lt h)]
    have h1 := T1_succ hl hi
    have h2 := sub_range (y.getD i 0) (x.getD i 0)
    rw [Ed_lt (j := j + 1) (i := i + 1) (Nat.succ_le_succ (Nat.le_of_lt h)), Ed_lt (j := j) (i := i + 1) h, Ed_lt (j := j) (i := i) (Nat.le_of_lt h)]
    by_cases hz : i = 0
    · subst hz
      rw [if_pos rfl] at hr
      simp only [Nat.zero_add] at h1 ⊢
      omega
    · rw [if_neg hz, Ed_lt (Nat.le_succ_of_le (Nat.le_of_lt h))] at hr
      clear hz hoff hi hj h0
      omega
  · subst h
    have h1 := T1_succ hl hi
    rw [Ed_lt (j := i + 1) (i := i + 1) (Nat.le_refl _), Ed_ge (j := i) (i := i + 1) (Nat.le_succ _), Ed_lt (j := i) (i := i) (Nat.le_refl _)]
    by_cases hz : i = 0
    · subst hz
      rw [if_pos rfl] at hr
      simp only [Nat.zero_add] at h1 ⊢
      omega
    · rw [if_neg hz, Ed_lt (Nat.le_succ _)] at hr
      clear hz hoff hi hj h0
      omega
  · rw [hoff i j hi hj (Nat.ne_of_gt h)]
    have h1 := T1_succ hl hj
    have h2 := sub_range (y.getD j 0) (x.getD j 0)
    rw [if_neg (by omega), Ed_ge (by omega)] at hr
    rw [Ed_ge (j := j + 1) (i := i + 1) (by omega), Ed_ge (j := j) (i := i + 1) (by omega), Ed_ge (j := j) (i := i) (by omega)]
    omega
def mix (x y : List Nat) (j i : Nat) : List Int := (List.range x.length).map fun k => if k < i then Ed x y (j + 1) (k + 1) else Ed x y j (k + 1)
theorem mix_zero (x y : List Nat) (j : Nat) : mix x y j 0 = rowJ x y j := by simp [mix, rowJ]
theorem mix_full (x y : List Nat) (j : Nat) : mix x y j x.length = rowJ x y (j + 1) := by
  unfold mix rowJ
  apply List.map_congr_left
  intro k hk
  rw [if_pos (List.mem_range.mp hk)]
theorem mix_get {x y : List Nat} {j i : Nat} (hi : i < x.length) : (mix x y j i).getD i 0 = Ed x y j (i + 1) := by
  simp [mix, List.getD_eq_getElem?_getD, hi]
theorem mix_set {x y : List Nat} {j i : Nat} : (mix x y j i).set i (Ed x y (j + 1) (i + 1)) = mix x y j (i + 1) := by
  apply List.ext_getElem
  · simp [mix]
  · intro k h1 h2
    simp only [mix, List.getElem_set, List.getElem_map, List.getElem_range]
    split
    · subst k; rw [if_pos (by omega)]
    · by_cases hk : k < i
      · rw [if_pos hk, if_pos (by omega)]
      · rw [if_neg hk, if_neg (by omega)]
local macro_rules | `(tactic| walk_at "exec If BoolOp") => `(tactic| k_extra "if1")
local macro_rules | `(tactic| walk_at "exec While BoolOp") => `(tactic| first | k_extra "loop" | refine Hold.mk ?_)
theorem ed_end {x y : List Nat} {r : Int} (hxy : x.length = y.length) (hx : 0 < x.length) (h : rangeKs 0 ((y.length : Int) - 0).toNat ≠ [] → r = Ed x y (rangeKs 0 ((y.length : Int) - 0).toNat).length x.length) : T0 x y = r := by
  have hlen : (rangeKs 0 ((y.length : Int) - 0).toNat).length = x.length := by rw [rangeKs_length]; omega
  have := h (fun e => by rw [e] at hlen; simp at hlen; omega)
  rw [hlen] at this
  have e1 : x.take x.length = x := List.take_length
  have e2 : y.take x.length = y := by rw [hxy]; exact List.take_length
  rw [this, Ed_lt (Nat.le_refl _), T1, e1, e2]
  omega
def Inn (x y : List Nat) (j i : Nat) (row : List Int) (result distance minimum : Int) : Prop :=
  row = mix x y j i ∧ distance = Ed x y j i ∧ (result = if i = 0 then 2 * (j : Int) else Ed x y (j + 1) i) ∧ (j + 1 ≤ i → minimum ≤ 8)
theorem inn_start {x y : List Nat} {j : Nat} {row : List Int} {r : Int} {mn : Int} {kN : Int} (hrow : row = rowJ x y j) (hk : kN = 0 + (j : Int)) (hr : r = kN * 2) : Inn x y j 0 row r r mn := by
  refine ⟨by rw [hrow, mix_zero], ?_, ?_, fun h => by omega⟩
  · rw [Ed_lt (Nat.zero_le _), T1_zero]; omega
  · rw [if_pos rfl]; omega
theorem inn_end {x y : List Nat} {j : Nat} {row : List Int} {r d mn : Int} (hx : 0 < x.length) (hj : j < x.length) (h : Inn x y j x.length row r d mn) : row = rowJ x y (j + 1) ∧ r = Ed x y (j + 1) x.length ∧ mn ≤ 8 := by
  obtain ⟨h1, _, h3, h4⟩ := h
  rw [if_neg (by omega)] at h3
  exact ⟨by rw [h1, mix_full], h3, h4 (by omega)⟩
theorem inn_turn {x y : List Nat} {j i : Nat} {row row' : List Int} {r d mn r' d' mn' : Int} (hl : x.length = y.length) (hoff : Off x y) (hmax : T0 x y ≤ 8) (hi : i < x.length) (hj : j < x.length)
    (h : Inn x y j i row r d mn) (hd : d' = row.getD i 0) (hr : r' = min (min r d' + 2) (d + sub (y.getD j 0) (x.getD i 0))) (hrow : row' = row.set i r') (hm : (r' < mn → mn' = r') ∧ (¬ r' < mn → mn' = mn)) : Inn x y j (i + 1) row' r' d' mn' := by
  obtain ⟨h1, h2, h3, h4⟩ := h
  rw [h1, mix_get hi] at hd
  rw [hd, step_eq hl hoff hi hj h3 h2] at hr
  subst hr
  refine ⟨by rw [hrow, h1, mix_set], hd, by rw [if_neg (by omega)], fun hle => ?_⟩
  have : j = i ∨ j + 1 ≤ i := by omega
  rcases this with rfl | hlt
  · have h5 : Ed x y (j + 1) (j + 1) ≤ 8 := by
      rw [Ed_lt (Nat.le_refl _)]
      have := T1_mono hl (x.length - (j + 1)) (j + 1) (by omega)
      omega
    have := hm.1; have := hm.2
    by_cases h : Ed x y (j + 1) (j + 1) < mn
    · rw [hm.1 h]; exact h5
    · rw [hm.2 h]; omega
  · have := h4 hlt
    by_cases h : Ed x y (j + 1) (i + 1) < mn
    · rw [hm.1 h]; omega
    · rw [hm.2 h]; exact this
local macro_rules | `(tactic| walk_at "call ref") => `(tactic| (refine Hold.mk ?_))
local macro_rules | `(tactic| kst_same) => `(tactic| (intro z h1 h2 h3; (simp only [List.forall_mem_cons, List.not_mem_nil, false_implies, implies_true, and_true, ne_eq] at h2); (simp only [List.contains_cons, List.contains_nil, Bool.or_false, Bool.or_eq_false_iff, beq_eq_false_iff_ne, ne_eq] at h3); (simp only [h1, h2, h3, if_false]; done)))
def nx (x y : List Nat) (row : List Int) (r d : Int) (kN kM : Int) : Int :=
  if d + subst (S [y.getD kM.toNat 0]) (S [x.getD kN.toNat 0]) < (if row.getD kN.toNat 0 < r then row.getD kN.toNat 0 else r) + 2 then d + subst (S [y.getD kM.toNat 0]) (S [x.getD kN.toNat 0])
  else (if row.getD kN.toNat 0 < r then row.getD kN.toNat 0 else r) + 2
theorem nx_min (A d s r : Int) : (if d + s < (if A < r then A else r) + 2 then d + s else (if A < r then A else r) + 2) = min (min r A + 2) (d + s) := by omega
theorem inn_turn1 {x y : List Nat} {ppre pre : List Int} {row : List Int} {r d mn mn' kN kM : Int} (hl : x.length = y.length) (hoff : Off x y) (hmax : T0 x y ≤ 8) (hN : kN = 0 + (pre.length : Int)) (hM : kM = 0 + (ppre.length : Int)) (hlN : pre.length < ((x.length : Int) - 0).toNat) (hlM : ppre.length < ((y.length : Int) - 0).toNat) (hlen : row.length = x.length)
    (h : Inn x y ppre.length pre.length row r d mn) (hm : (nx x y row r d kN kM < mn → mn' = nx x y row r d kN kM) ∧ (¬ nx x y row r d kN kM < mn → mn' = mn)) :
    (row.set kN.toNat (nx x y row r d kN kM)).length = x.length ∧ Inn x y ppre.length (pre ++ [kN]).length (row.set kN.toNat (nx x y row r d kN kM)) (nx x y row r d kN kM) (row.getD kN.toNat 0) mn' := by
  refine ⟨by rw [List.length_set]; exact hlen, ?_⟩
  have e1 : kN.toNat = pre.length := by omega
  have e2 : kM.toNat = ppre.length := by omega
  have e3 : nx x y row r d kN kM = min (min r (row.getD pre.length 0) + 2) (d + sub (y.getD ppre.length 0) (x.getD pre.length 0)) := by
    unfold nx sub
    rw [e1, e2]
    exact nx_min _ _ _ _
  rw [List.length_append, List.length_singleton]
  exact inn_turn hl hoff hmax (by simpa using hlN) (by rw [hl]; simpa using hlM) h (by rw [e1]) (by rw [e1]; exact e3) (by rw [e1]) hm
theorem inn_out {x y : List Nat} {ppre : List Int} {row : List Int} {r d mn kM : Int} (hl : x.length = y.length) (hx : 0 < x.length) (hlM : ppre.length < ((y.length : Int) - 0).toNat)
    (h : Inn x y ppre.length (rangeKs 0 ((x.length : Int) - 0).toNat).length row r d mn) : row = rowJ x y (ppre ++ [kM]).length ∧ (ppre ++ [kM] ≠ [] → r = Ed x y (ppre ++ [kM]).length x.length) := by
  rw [rangeKs_length, show ((x.length : Int) - 0).toNat = x.length from by omega] at h
  have := inn_end hx (by omega) h
  rw [List.length_append, List.length_singleton]
  exact ⟨this.1, fun _ => this.2.1⟩
theorem inn_bad {x y : List Nat} {ppre : List Int} {row : List Int} {r d mn : Int} (hl : x.length = y.length) (hx : 0 < x.length) (hlM : ppre.length < ((y.length : Int) - 0).toNat)
    (h : Inn x y ppre.length (rangeKs 0 ((x.length : Int) - 0).toNat).length row r d mn) (hb : 8 < mn) : False := by
  rw [rangeKs_length, show ((x.length : Int) - 0).toNat = x.length from by omega] at h
  have := inn_end hx (by omega) h
  omega
local macro_rules | `(tactic| walk_at "InvEndN") => `(tactic| (refine Hold.mk ?_))
theorem lev_use {w : World} {mean : ExcName → Option Value} {mg mb : Str → Option Value} {news : List (Addr × Obj)} {la lb : List Nat} {tc td te : Tok} {dp un : Nat} {gd : Option (List Code)} {cn : Str} {cs : Scope} {a : Addr} {ccd : Value} {cl : List (Str × Addr)} {outer : List Env} {A₀ : Around} {base h₀ : Heap} {L : Addr} {m : Str → Option Value} {s : Shared} {Q E : Value → Shared → Prop}
   (hl : la.length = lb.length) (h16 : la.length ≤ 16) (hoff : Off la lb) (hmax : T0 la lb ≤ 8) :
   Pre w mean mg mb cs A₀ outer base h₀ L m news s.heap dp un 3 24 ((∀ (t : Tok) (h' : Heap) (tk' : Nat), Fr h₀ L h' m → News h₀ L h' news → Q (.int (T0 la lb) t) { s with heap := h', toks := tk' }) →
    wpAny (model PW w) (ktrTop dp un gd cn cs L a ccd cl outer) (call (.ref 207) [.str (S la) tc, .str (S lb) td, .int 8 te]) Q E s) := by
  intro B F X N T hk hd hu hret
  refine wpAny_call ?_
  k_with_none
  k_with "state" => first | exact w1_start hl (by assumption) | exact w1_turn hl (by assumption) (by assumption) (by assumption) (by assumption) (by assumption)
  k_with "loop" => k_while (fun _ pre => 0 ≤ pre ∧ pre < (la.length : Int) ∧ la.take pre.toNat = lb.take pre.toNat) (fun _ pre => ((la.length : Int) - pre).toNat) "pre"
  k_dflt cell_enter
  (k_steps; repeat' (first | ((refine Hold.out ?_; first | (((rename News _ _ _ _ => znE'); (try simp only [List.push_toArray] at znE'); k_dflt first | (refine kst_end ⟨_,_,_,_,_,_,_,_,_⟩ (by assumption) znE' (by ((try dsimp only); refine List.forall_mem_cons.mpr ⟨List.mem_cons_self, ?_⟩; first | exact List.forall_mem_nil _ | (intro p hp; kst_mem))) (by first | (intro p hp; kst_mem) | kst_anyIn) (by rfl) (by kst_facts) (by kst_all) (by kst_same) (by kst_p)) | (refine kst_end ⟨_,_,_,_,_⟩ (by assumption) znE' (by ((try dsimp only); refine List.forall_mem_cons.mpr ⟨List.mem_cons_self, ?_⟩; first | exact List.forall_mem_nil _ | (intro p hp; kst_mem))) (by first | (intro p hp; kst_mem) | kst_anyIn) (by rfl) (by kst_facts) (by kst_all) (by kst_same) (by kst_p)))) | ((with_reducible show wpAny _ _ (call (Value.ref _) _) _ _ _); (k_here; k_dflt (refine' subst_use ?c1 ?c2 ?k1 ?k2 ?k3 ?k4 ?k5 ?kK ?kd ?ku ?_; (case c1 => simp [S, Str.length]); (case c2 => simp [S, Str.length]); (case k1 => k_asm); (case k2 => k_asm); (case k3 => k_asm); (case k4 => k_asm); (case k5 => k_asm); (case kK => first | exact rfl | assumption); (case kd => ktr_room); (case ku => ktr_units)); intro _ _ _ _ _; (try dsimp only); (try k_fold))) | ((k_here; (with_reducible show wpAny _ _ (call (Value.type _) [Value.ref _]) _ _ _); (rename IsRange _ _ _ _ _ _ _ _ => rgX); (with_reducible rename Fr _ _ _ _ => zF'); (with_reducible rename News _ _ _ _ => zN'); k_dflt (refine list_rng2 rfl zF' zN' rgX (by first | assumption | exact Int.le_of_lt (by assumption) | exact Nat.le_trans (by assumption) (by decide) | (rw [← hl]; (first | assumption | exact Int.le_of_lt (by assumption) | exact Nat.le_trans (by assumption) (by decide))) | (rw [← hxl]; (first | assumption | exact Int.le_of_lt (by assumption) | exact Nat.le_trans (by assumption) (by decide))) | (rw [← hxy]; (first | assumption | exact Int.le_of_lt (by assumption) | exact Nat.le_trans (by assumption) (by decide))) | omega) ?_); intro _ _ _ _ _ _ _ _ _)) | (((try dsimp only); (with_reducible show wpAny _ _ (call (Value.builtin "len") _) _ _ _)); (with_reducible show wpAny _ _ (call (Value.builtin _) [Value.str (S _) _]) _ _ _; refine len_S (by first | assumption | exact Int.le_of_lt (by assumption) | exact Nat.le_trans (by assumption) (by decide) | (rw [← hl]; (first | assumption | exact Int.le_of_lt (by assumption) | exact Nat.le_trans (by assumption) (by decide))) | (rw [← hxl]; (first | assumption | exact Int.le_of_lt (by assumption) | exact Nat.le_trans (by assumption) (by decide))) | (rw [← hxy]; (first | assumption | exact Int.le_of_lt (by assumption) | exact Nat.le_trans (by assumption) (by decide))) | omega) ?_)) | ((with_reducible show wpAny _ _ (subscriptTail _ _ _ _) _ _ _); (k_here; (with_reducible show wpAny _ _ (subscriptTail _ _ (Value.str (S _) _) (Value.int _ _)) _ _ _); (refine itemN_S (by first | assumption | exact Int.le_of_lt (by assumption) | exact Nat.le_trans (by assumption) (by decide) | (rw [← hl]; (first | assumption | exact Int.le_of_lt (by assumption) | exact Nat.le_trans (by assumption) (by decide))) | (rw [← hxl]; (first | assumption | exact Int.le_of_lt (by assumption) | exact Nat.le_trans (by assumption) (by decide))) | (rw [← hxy]; (first | assumption | exact Int.le_of_lt (by assumption) | exact Nat.le_trans (by assumption) (by decide))) | omega) (by first | assumption | exact Int.le_of_lt (by assumption) | exact Nat.le_trans (by assumption) (by decide) | (rw [← hl]; (first | assumption | exact Int.le_of_lt (by assumption) | exact Nat.le_trans (by assumption) (by decide))) | (rw [← hxl]; (first | assumption | exact Int.le_of_lt (by assumption) | exact Nat.le_trans (by assumption) (by decide))) | (rw [← hxy]; (first | assumption | exact Int.le_of_lt (by assumption) | exact Nat.le_trans (by assumption) (by decide))) | omega) (by first | assumption | exact Int.le_of_lt (by assumption) | exact Nat.le_trans (by assumption) (by decide) | (rw [← hl]; (first | assumption | exact Int.le_of_lt (by assumption) | exact Nat.le_trans (by assumption) (by decide))) | (rw [← hxl]; (first | assumption | exact Int.le_of_lt (by assumption) | exact Nat.le_trans (by assumption) (by decide))) | (rw [← hxy]; (first | assumption | exact Int.le_of_lt (by assumption) | exact Nat.le_trans (by assumption) (by decide))) | omega) ?_))) | ((k_here; (with_reducible show wpAny _ _ (eval (Expr.Subscript _ (Expr.Slice none (some (Expr.BoolOp _ _ _)) none _) _) _) _ _ _); (with_reducible rename Fr _ _ _ _ => zF'); (with_reducible rename News _ _ _ _ => zN'); k_dflt (refine post_slice zF' zN' (by rfl) (by rfl) (by assumption) (by first | assumption | exact Int.le_of_lt (by assumption) | exact Nat.le_trans (by assumption) (by decide) | (rw [← hl]; (first | assumption | exact Int.le_of_lt (by assumption) | exact Nat.le_trans (by assumption) (by decide))) | (rw [← hxl]; (first | assumption | exact Int.le_of_lt (by assumption) | exact Nat.le_trans (by assumption) (by decide))) | (rw [← hxy]; (first | assumption | exact Int.le_of_lt (by assumption) | exact Nat.le_trans (by assumption) (by decide))) | omega) (by first | assumption | exact Int.le_of_lt (by assumption) | exact Nat.le_trans (by assumption) (by decide) | (rw [← hl]; (first | assumption | exact Int.le_of_lt (by assumption) | exact Nat.le_trans (by assumption) (by decide))) | (rw [← hxl]; (first | assumption | exact Int.le_of_lt (by assumption) | exact Nat.le_trans (by assumption) (by decide))) | (rw [← hxy]; (first | assumption | exact Int.le_of_lt (by assumption) | exact Nat.le_trans (by assumption) (by decide))) | omega) (by rfl) (by rfl) (by rfl) (by decide) ?_); intro _ _ _ _ _)) | ((with_reducible show wpAny _ _ (compareOp _ _ _) _ _ _); (refine eq_S ?_)) | ((with_reducible show wpAny _ _ (PySem.truthy _) _ _ _); (k_here; (with_reducible show wpAny _ _ (PySem.truthy (Value.str (S _) _)) _ _ _); (refine truthy_S (ne_of_len (by first | assumption | exact Int.le_of_lt (by assumption) | exact Nat.le_trans (by assumption) (by decide) | (rw [← hl]; (first | assumption | exact Int.le_of_lt (by assumption) | exact Nat.le_trans (by assumption) (by decide))) | (rw [← hxl]; (first | assumption | exact Int.le_of_lt (by assumption) | exact Nat.le_trans (by assumption) (by decide))) | (rw [← hxy]; (first | assumption | exact Int.le_of_lt (by assumption) | exact Nat.le_trans (by assumption) (by decide))) | omega | (simp only [List.length_drop, List.length_take]; omega))) (by first | assumption | exact Int.le_of_lt (by assumption) | exact Nat.le_trans (by assumption) (by decide) | (rw [← hl]; (first | assumption | exact Int.le_of_lt (by assumption) | exact Nat.le_trans (by assumption) (by decide))) | (rw [← hxl]; (first | assumption | exact Int.le_of_lt (by assumption) | exact Nat.le_trans (by assumption) (by decide))) | (rw [← hxy]; (first | assumption | exact Int.le_of_lt (by assumption) | exact Nat.le_trans (by assumption) (by decide))) | omega | (simp only [List.length_drop, List.length_take]; omega)) ?_))) | ((with_reducible show wpAny _ _ (subscriptTail _ _ _ _) _ _ _); (k_here; (with_reducible show wpAny _ _ (subscriptTail _ _ (Value.str (S _) _) (Value.int _ _)) _ _ _); (refine item_S (by first | assumption | exact Int.le_of_lt (by assumption) | exact Nat.le_trans (by assumption) (by decide) | (rw [← hl]; (first | assumption | exact Int.le_of_lt (by assumption) | exact Nat.le_trans (by assumption) (by decide))) | (rw [← hxl]; (first | assumption | exact Int.le_of_lt (by assumption) | exact Nat.le_trans (by assumption) (by decide))) | (rw [← hxy]; (first | assumption | exact Int.le_of_lt (by assumption) | exact Nat.le_trans (by assumption) (by decide))) | omega) (by first | assumption | exact Int.le_of_lt (by assumption) | exact Nat.le_trans (by assumption) (by decide) | (rw [← hl]; (first | assumption | exact Int.le_of_lt (by assumption) | exact Nat.le_trans (by assumption) (by decide))) | (rw [← hxl]; (first | assumption | exact Int.le_of_lt (by assumption) | exact Nat.le_trans (by assumption) (by decide))) | (rw [← hxy]; (first | assumption | exact Int.le_of_lt (by assumption) | exact Nat.le_trans (by assumption) (by decide))) | omega) (by first | assumption | exact Int.le_of_lt (by assumption) | exact Nat.le_trans (by assumption) (by decide) | (rw [← hl]; (first | assumption | exact Int.le_of_lt (by assumption) | exact Nat.le_trans (by assumption) (by decide))) | (rw [← hxl]; (first | assumption | exact Int.le_of_lt (by assumption) | exact Nat.le_trans (by assumption) (by decide))) | (rw [← hxy]; (first | assumption | exact Int.le_of_lt (by assumption) | exact Nat.le_trans (by assumption) (by decide))) | omega) ?_))) | ((with_reducible show wpAny _ _ (subscriptTail _ _ _ _) _ _ _); (k_here; (with_reducible show wpAny _ _ (subscriptTail _ (Expr.Slice (some _) none none _) (Value.str (S _) _) (Value.ref _)) _ _ _); (with_reducible rename Fr _ _ _ _ => zF'); (with_reducible rename News _ _ _ _ => zN'); (refine sl_sn (s := ⟨_, _, _, _, _⟩) zF' zN' (by first | assumption | exact Int.le_of_lt (by assumption) | exact Nat.le_trans (by assumption) (by decide) | (rw [← hl]; (first | assumption | exact Int.le_of_lt (by assumption) | exact Nat.le_trans (by assumption) (by decide))) | (rw [← hxl]; (first | assumption | exact Int.le_of_lt (by assumption) | exact Nat.le_trans (by assumption) (by decide))) | (rw [← hxy]; (first | assumption | exact Int.le_of_lt (by assumption) | exact Nat.le_trans (by assumption) (by decide))) | omega) (by first | assumption | exact Int.le_of_lt (by assumption) | exact Nat.le_trans (by assumption) (by decide) | (rw [← hl]; (first | assumption | exact Int.le_of_lt (by assumption) | exact Nat.le_trans (by assumption) (by decide))) | (rw [← hxl]; (first | assumption | exact Int.le_of_lt (by assumption) | exact Nat.le_trans (by assumption) (by decide))) | (rw [← hxy]; (first | assumption | exact Int.le_of_lt (by assumption) | exact Nat.le_trans (by assumption) (by decide))) | omega) (by first | assumption | exact Int.le_of_lt (by assumption) | exact Nat.le_trans (by assumption) (by decide) | (rw [← hl]; (first | assumption | exact Int.le_of_lt (by assumption) | exact Nat.le_trans (by assumption) (by decide))) | (rw [← hxl]; (first | assumption | exact Int.le_of_lt (by assumption) | exact Nat.le_trans (by assumption) (by decide))) | (rw [← hxy]; (first | assumption | exact Int.le_of_lt (by assumption) | exact Nat.le_trans (by assumption) (by decide))) | omega) ?_); intro _ _ _ _ _))); k_steps) | (refine gp_use (by assumption) ?_; (try dsimp only); k_steps)))
  · rename la = lb => he
    rw [show T0 la lb = 0 from by rw [he, T0_self]] at hret
    rename News h₀ _ _ _ => nE'
    exact hret _ _ _ (by assumption) (cb_drop nE' (by intro p hp; repeat' (first | exact hp | refine List.Mem.tail _ ?_)))
  rename Int => p0
  rename List.take _ la = _ => hpre
  rename ¬ [la.getD _ 0] = _ => hd0
  rename (0 : Int) ≤ p0 => hp0
  rename p0 < (la.length : Int) => hp1
  have hxl : (la.drop p0.toNat).length = (lb.drop p0.toNat).length := by simp only [List.length_drop, hl]
  have hx0 : 0 < (la.drop p0.toNat).length := by rw [List.length_drop]; exact Nat.sub_pos_of_lt ((Int.toNat_lt hp0).mpr hp1)
  have hx1 : (la.drop p0.toNat).length ≤ 16 := by rw [List.length_drop]; exact Nat.le_trans (Nat.sub_le _ _) h16
  have hxd : (la.drop p0.toNat).getD 0 0 ≠ (lb.drop p0.toNat).getD 0 0 := by
    intro e; apply hd0; simp only [List.getD_eq_getElem?_getD, List.getElem?_drop, Nat.add_zero] at e; simp only [List.getD_eq_getElem?_getD, e]
  have hT : T0 la lb = T0 (la.drop p0.toNat) (lb.drop p0.toNat) := T0_drop hl hpre
  have hxo : Off (la.drop p0.toNat) (lb.drop p0.toNat) := hoff.drop hl _
  generalize la.drop p0.toNat = x at *
  generalize lb.drop p0.toNat = y at *
  refine Hold.out ?_
  k_with_none
  k_with "state" => first | exact w2_start hxl hx0 | exact w2_turn hxl hxd (by assumption) (by assumption) (by assumption) (by assumption)
  k_with "if1" => refine Hold.mk ?_
  k_with "loop" => k_while (fun _ post => post ≤ 0 ∧ -post < (x.length : Int) ∧ x.drop (x.length - (-post).toNat) = y.drop (x.length - (-post).toNat)) (fun _ post => ((x.length : Int) + post).toNat) "post"
  (k_steps; repeat' (first | ((refine Hold.out ?_; first | (((rename News _ _ _ _ => znE'); (try simp only [List.push_toArray] at znE'); k_dflt first | (refine kst_end ⟨_,_,_,_,_,_,_,_,_⟩ (by assumption) znE' (by ((try dsimp only); refine List.forall_mem_cons.mpr ⟨List.mem_cons_self, ?_⟩; first | exact List.forall_mem_nil _ | (intro p hp; kst_mem))) (by first | (intro p hp; kst_mem) | kst_anyIn) (by rfl) (by kst_facts) (by kst_all) (by kst_same) (by kst_p)) | (refine kst_end ⟨_,_,_,_,_⟩ (by assumption) znE' (by ((try dsimp only); refine List.forall_mem_cons.mpr ⟨List.mem_cons_self, ?_⟩; first | exact List.forall_mem_nil _ | (intro p hp; kst_mem))) (by first | (intro p hp; kst_mem) | kst_anyIn) (by rfl) (by kst_facts) (by kst_all) (by kst_same) (by kst_p)))) | ((with_reducible show wpAny _ _ (call (Value.ref _) _) _ _ _); (k_here; k_dflt (refine' subst_use ?c1 ?c2 ?k1 ?k2 ?k3 ?k4 ?k5 ?kK ?kd ?ku ?_; (case c1 => simp [S, Str.length]); (case c2 => simp [S, Str.length]); (case k1 => k_asm); (case k2 => k_asm); (case k3 => k_asm); (case k4 => k_asm); (case k5 => k_asm); (case kK => first | exact rfl | assumption); (case kd => ktr_room); (case ku => ktr_units)); intro _ _ _ _ _; (try dsimp only); (try k_fold))) | ((k_here; (with_reducible show wpAny _ _ (call (Value.type _) [Value.ref _]) _ _ _); (rename IsRange _ _ _ _ _ _ _ _ => rgX); (with_reducible rename Fr _ _ _ _ => zF'); (with_reducible rename News _ _ _ _ => zN'); k_dflt (refine list_rng2 rfl zF' zN' rgX (by first | assumption | exact Int.le_of_lt (by assumption) | exact Nat.le_trans (by assumption) (by decide) | (rw [← hl]; (first | assumption | exact Int.le_of_lt (by assumption) | exact Nat.le_trans (by assumption) (by decide))) | (rw [← hxl]; (first | assumption | exact Int.le_of_lt (by assumption) | exact Nat.le_trans (by assumption) (by decide))) | (rw [← hxy]; (first | assumption | exact Int.le_of_lt (by assumption) | exact Nat.le_trans (by assumption) (by decide))) | omega) ?_); intro _ _ _ _ _ _ _ _ _)) | (((try dsimp only); (with_reducible show wpAny _ _ (call (Value.builtin "len") _) _ _ _)); (with_reducible show wpAny _ _ (call (Value.builtin _) [Value.str (S _) _]) _ _ _; refine len_S (by first | assumption | exact Int.le_of_lt (by assumption) | exact Nat.le_trans (by assumption) (by decide) | (rw [← hl]; (first | assumption | exact Int.le_of_lt (by assumption) | exact Nat.le_trans (by assumption) (by decide))) | (rw [← hxl]; (first | assumption | exact Int.le_of_lt (by assumption) | exact Nat.le_trans (by assumption) (by decide))) | (rw [← hxy]; (first | assumption | exact Int.le_of_lt (by assumption) | exact Nat.le_trans (by assumption) (by decide))) | omega) ?_)) | ((with_reducible show wpAny _ _ (subscriptTail _ _ _ _) _ _ _); (k_here; (with_reducible show wpAny _ _ (subscriptTail _ _ (Value.str (S _) _) (Value.int _ _)) _ _ _); (refine itemN_S (by first | assumption | exact Int.le_of_lt (by assumption) | exact Nat.le_trans (by assumption) (by decide) | (rw [← hl]; (first | assumption | exact Int.le_of_lt (by assumption) | exact Nat.le_trans (by assumption) (by decide))) | (rw [← hxl]; (first | assumption | exact Int.le_of_lt (by assumption) | exact Nat.le_trans (by assumption) (by decide))) | (rw [← hxy]; (first | assumption | exact Int.le_of_lt (by assumption) | exact Nat.le_trans (by assumption) (by decide))) | omega) (by first | assumption | exact Int.le_of_lt (by assumption) | exact Nat.le_trans (by assumption) (by decide) | (rw [← hl]; (first | assumption | exact Int.le_of_lt (by assumption) | exact Nat.le_trans (by assumption) (by decide))) | (rw [← hxl]; (first | assumption | exact Int.le_of_lt (by assumption) | exact Nat.le_trans (by assumption) (by decide))) | (rw [← hxy]; (first | assumption | exact Int.le_of_lt (by assumption) | exact Nat.le_trans (by assumption) (by decide))) | omega) (by first | assumption | exact Int.le_of_lt (by assumption) | exact Nat.le_trans (by assumption) (by decide) | (rw [← hl]; (first | assumption | exact Int.le_of_lt (by assumption) | exact Nat.le_trans (by assumption) (by decide))) | (rw [← hxl]; (first | assumption | exact Int.le_of_lt (by assumption) | exact Nat.le_trans (by assumption) (by decide))) | (rw [← hxy]; (first | assumption | exact Int.le_of_lt (by assumption) | exact Nat.le_trans (by assumption) (by decide))) | omega) ?_))) | ((k_here; (with_reducible show wpAny _ _ (eval (Expr.Subscript _ (Expr.Slice none (some (Expr.BoolOp _ _ _)) none _) _) _) _ _ _); (with_reducible rename Fr _ _ _ _ => zF'); (with_reducible rename News _ _ _ _ => zN'); k_dflt (refine post_slice zF' zN' (by rfl) (by rfl) (by assumption) (by first | assumption | exact Int.le_of_lt (by assumption) | exact Nat.le_trans (by assumption) (by decide) | (rw [← hl]; (first | assumption | exact Int.le_of_lt (by assumption) | exact Nat.le_trans (by assumption) (by decide))) | (rw [← hxl]; (first | assumption | exact Int.le_of_lt (by assumption) | exact Nat.le_trans (by assumption) (by decide))) | (rw [← hxy]; (first | assumption | exact Int.le_of_lt (by assumption) | exact Nat.le_trans (by assumption) (by decide))) | omega) (by first | assumption | exact Int.le_of_lt (by assumption) | exact Nat.le_trans (by assumption) (by decide) | (rw [← hl]; (first | assumption | exact Int.le_of_lt (by assumption) | exact Nat.le_trans (by assumption) (by decide))) | (rw [← hxl]; (first | assumption | exact Int.le_of_lt (by assumption) | exact Nat.le_trans (by assumption) (by decide))) | (rw [← hxy]; (first | assumption | exact Int.le_of_lt (by assumption) | exact Nat.le_trans (by assumption) (by decide))) | omega) (by rfl) (by rfl) (by rfl) (by decide) ?_); intro _ _ _ _ _)) | ((with_reducible show wpAny _ _ (compareOp _ _ _) _ _ _); (refine eq_S ?_)) | ((with_reducible show wpAny _ _ (PySem.truthy _) _ _ _); (k_here; (with_reducible show wpAny _ _ (PySem.truthy (Value.str (S _) _)) _ _ _); (refine truthy_S (ne_of_len (by first | assumption | exact Int.le_of_lt (by assumption) | exact Nat.le_trans (by assumption) (by decide) | (rw [← hl]; (first | assumption | exact Int.le_of_lt (by assumption) | exact Nat.le_trans (by assumption) (by decide))) | (rw [← hxl]; (first | assumption | exact Int.le_of_lt (by assumption) | exact Nat.le_trans (by assumption) (by decide))) | (rw [← hxy]; (first | assumption | exact Int.le_of_lt (by assumption) | exact Nat.le_trans (by assumption) (by decide))) | omega | (simp only [List.length_drop, List.length_take]; omega))) (by first | assumption | exact Int.le_of_lt (by assumption) | exact Nat.le_trans (by assumption) (by decide) | (rw [← hl]; (first | assumption | exact Int.le_of_lt (by assumption) | exact Nat.le_trans (by assumption) (by decide))) | (rw [← hxl]; (first | assumption | exact Int.le_of_lt (by assumption) | exact Nat.le_trans (by assumption) (by decide))) | (rw [← hxy]; (first | assumption | exact Int.le_of_lt (by assumption) | exact Nat.le_trans (by assumption) (by decide))) | omega | (simp only [List.length_drop, List.length_take]; omega)) ?_))) | ((with_reducible show wpAny _ _ (subscriptTail _ _ _ _) _ _ _); (k_here; (with_reducible show wpAny _ _ (subscriptTail _ _ (Value.str (S _) _) (Value.int _ _)) _ _ _); (refine item_S (by first | assumption | exact Int.le_of_lt (by assumption) | exact Nat.le_trans (by assumption) (by decide) | (rw [← hl]; (first | assumption | exact Int.le_of_lt (by assumption) | exact Nat.le_trans (by assumption) (by decide))) | (rw [← hxl]; (first | assumption | exact Int.le_of_lt (by assumption) | exact Nat.le_trans (by assumption) (by decide))) | (rw [← hxy]; (first | assumption | exact Int.le_of_lt (by assumption) | exact Nat.le_trans (by assumption) (by decide))) | omega) (by first | assumption | exact Int.le_of_lt (by assumption) | exact Nat.le_trans (by assumption) (by decide) | (rw [← hl]; (first | assumption | exact Int.le_of_lt (by assumption) | exact Nat.le_trans (by assumption) (by decide))) | (rw [← hxl]; (first | assumption | exact Int.le_of_lt (by assumption) | exact Nat.le_trans (by assumption) (by decide))) | (rw [← hxy]; (first | assumption | exact Int.le_of_lt (by assumption) | exact Nat.le_trans (by assumption) (by decide))) | omega) (by first | assumption | exact Int.le_of_lt (by assumption) | exact Nat.le_trans (by assumption) (by decide) | (rw [← hl]; (first | assumption | exact Int.le_of_lt (by assumption) | exact Nat.le_trans (by assumption) (by decide))) | (rw [← hxl]; (first | assumption | exact Int.le_of_lt (by assumption) | exact Nat.le_trans (by assumption) (by decide))) | (rw [← hxy]; (first | assumption | exact Int.le_of_lt (by assumption) | exact Nat.le_trans (by assumption) (by decide))) | omega) ?_))) | ((with_reducible show wpAny _ _ (subscriptTail _ _ _ _) _ _ _); (k_here; (with_reducible show wpAny _ _ (subscriptTail _ (Expr.Slice (some _) none none _) (Value.str (S _) _) (Value.ref _)) _ _ _); (with_reducible rename Fr _ _ _ _ => zF'); (with_reducible rename News _ _ _ _ => zN'); (refine sl_sn (s := ⟨_, _, _, _, _⟩) zF' zN' (by first | assumption | exact Int.le_of_lt (by assumption) | exact Nat.le_trans (by assumption) (by decide) | (rw [← hl]; (first | assumption | exact Int.le_of_lt (by assumption) | exact Nat.le_trans (by assumption) (by decide))) | (rw [← hxl]; (first | assumption | exact Int.le_of_lt (by assumption) | exact Nat.le_trans (by assumption) (by decide))) | (rw [← hxy]; (first | assumption | exact Int.le_of_lt (by assumption) | exact Nat.le_trans (by assumption) (by decide))) | omega) (by first | assumption | exact Int.le_of_lt (by assumption) | exact Nat.le_trans (by assumption) (by decide) | (rw [← hl]; (first | assumption | exact Int.le_of_lt (by assumption) | exact Nat.le_trans (by assumption) (by decide))) | (rw [← hxl]; (first | assumption | exact Int.le_of_lt (by assumption) | exact Nat.le_trans (by assumption) (by decide))) | (rw [← hxy]; (first | assumption | exact Int.le_of_lt (by assumption) | exact Nat.le_trans (by assumption) (by decide))) | omega) (by first | assumption | exact Int.le_of_lt (by assumption) | exact Nat.le_trans (by assumption) (by decide) | (rw [← hl]; (first | assumption | exact Int.le_of_lt (by assumption) | exact Nat.le_trans (by assumption) (by decide))) | (rw [← hxl]; (first | assumption | exact Int.le_of_lt (by assumption) | exact Nat.le_trans (by assumption) (by decide))) | (rw [← hxy]; (first | assumption | exact Int.le_of_lt (by assumption) | exact Nat.le_trans (by assumption) (by decide))) | omega) ?_); intro _ _ _ _ _))); k_steps) | (refine gp_use (by assumption) ?_; (try dsimp only); k_steps)))
  rename Int => post
  rename post ≤ 0 => hq0
  rename -post < (x.length : Int) => hq1
  rename List.drop _ x = _ => hsuf
  have hxy : (x.take (x.length - (-post).toNat)).length = (y.take (y.length - (-post).toNat)).length := by rw [List.length_take, List.length_take, hxl]
  have hn0 : 0 < (x.take (x.length - (-post).toNat)).length := by simp only [List.length_take]; omega
  have hn1 : (x.take (x.length - (-post).toNat)).length ≤ 16 := by rw [List.length_take]; exact Nat.le_trans (Nat.min_le_right _ _) hx1
  have hT2 : T0 x y = T0 (x.take (x.length - (-post).toNat)) (y.take (y.length - (-post).toNat)) := by rw [← hxl]; exact T0_take hxl hsuf
  have hyo : Off (x.take (x.length - (-post).toNat)) (y.take (y.length - (-post).toNat)) := by rw [← hxl]; exact hxo.take hxl _
  generalize x.take (x.length - (-post).toNat) = x2 at *
  generalize y.take (y.length - (-post).toNat) = y2 at *
  refine Hold.out ?_
  k_with_none
  k_with "for" => refine Hold.mk ?_
  (k_steps; repeat' (first | ((refine Hold.out ?_; first | (((rename News _ _ _ _ => znE'); (try simp only [List.push_toArray] at znE'); k_dflt first | (refine kst_end ⟨_,_,_,_,_,_,_,_,_⟩ (by assumption) znE' (by ((try dsimp only); refine List.forall_mem_cons.mpr ⟨List.mem_cons_self, ?_⟩; first | exact List.forall_mem_nil _ | (intro p hp; kst_mem))) (by first | (intro p hp; kst_mem) | kst_anyIn) (by rfl) (by kst_facts) (by kst_all) (by kst_same) (by kst_p)) | (refine kst_end ⟨_,_,_,_,_⟩ (by assumption) znE' (by ((try dsimp only); refine List.forall_mem_cons.mpr ⟨List.mem_cons_self, ?_⟩; first | exact List.forall_mem_nil _ | (intro p hp; kst_mem))) (by first | (intro p hp; kst_mem) | kst_anyIn) (by rfl) (by kst_facts) (by kst_all) (by kst_same) (by kst_p)))) | ((with_reducible show wpAny _ _ (call (Value.ref _) _) _ _ _); (k_here; k_dflt (refine' subst_use ?c1 ?c2 ?k1 ?k2 ?k3 ?k4 ?k5 ?kK ?kd ?ku ?_; (case c1 => simp [S, Str.length]); (case c2 => simp [S, Str.length]); (case k1 => k_asm); (case k2 => k_asm); (case k3 => k_asm); (case k4 => k_asm); (case k5 => k_asm); (case kK => first | exact rfl | assumption); (case kd => ktr_room); (case ku => ktr_units)); intro _ _ _ _ _; (try dsimp only); (try k_fold))) | ((k_here; (with_reducible show wpAny _ _ (call (Value.type _) [Value.ref _]) _ _ _); (rename IsRange _ _ _ _ _ _ _ _ => rgX); (with_reducible rename Fr _ _ _ _ => zF'); (with_reducible rename News _ _ _ _ => zN'); k_dflt (refine list_rng2 rfl zF' zN' rgX (by first | assumption | exact Int.le_of_lt (by assumption) | exact Nat.le_trans (by assumption) (by decide) | (rw [← hl]; (first | assumption | exact Int.le_of_lt (by assumption) | exact Nat.le_trans (by assumption) (by decide))) | (rw [← hxl]; (first | assumption | exact Int.le_of_lt (by assumption) | exact Nat.le_trans (by assumption) (by decide))) | (rw [← hxy]; (first | assumption | exact Int.le_of_lt (by assumption) | exact Nat.le_trans (by assumption) (by decide))) | omega) ?_); intro _ _ _ _ _ _ _ _ _)) | (((try dsimp only); (with_reducible show wpAny _ _ (call (Value.builtin "len") _) _ _ _)); (with_reducible show wpAny _ _ (call (Value.builtin _) [Value.str (S _) _]) _ _ _; refine len_S (by first | assumption | exact Int.le_of_lt (by assumption) | exact Nat.le_trans (by assumption) (by decide) | (rw [← hl]; (first | assumption | exact Int.le_of_lt (by assumption) | exact Nat.le_trans (by assumption) (by decide))) | (rw [← hxl]; (first | assumption | exact Int.le_of_lt (by assumption) | exact Nat.le_trans (by assumption) (by decide))) | (rw [← hxy]; (first | assumption | exact Int.le_of_lt (by assumption) | exact Nat.le_trans (by assumption) (by decide))) | omega) ?_)) | ((with_reducible show wpAny _ _ (subscriptTail _ _ _ _) _ _ _); (k_here; (with_reducible show wpAny _ _ (subscriptTail _ _ (Value.str (S _) _) (Value.int _ _)) _ _ _); (refine itemN_S (by first | assumption | exact Int.le_of_lt (by assumption) | exact Nat.le_trans (by assumption) (by decide) | (rw [← hl]; (first | assumption | exact Int.le_of_lt (by assumption) | exact Nat.le_trans (by assumption) (by decide))) | (rw [← hxl]; (first | assumption | exact Int.le_of_lt (by assumption) | exact Nat.le_trans (by assumption) (by decide))) | (rw [← hxy]; (first | assumption | exact Int.le_of_lt (by assumption) | exact Nat.le_trans (by assumption) (by decide))) | omega) (by first | assumption | exact Int.le_of_lt (by assumption) | exact Nat.le_trans (by assumption) (by decide) | (rw [← hl]; (first | assumption | exact Int.le_of_lt (by assumption) | exact Nat.le_trans (by assumption) (by decide))) | (rw [← hxl]; (first | assumption | exact Int.le_of_lt (by assumption) | exact Nat.le_trans (by assumption) (by decide))) | (rw [← hxy]; (first | assumption | exact Int.le_of_lt (by assumption) | exact Nat.le_trans (by assumption) (by decide))) | omega) (by first | assumption | exact Int.le_of_lt (by assumption) | exact Nat.le_trans (by assumption) (by decide) | (rw [← hl]; (first | assumption | exact Int.le_of_lt (by assumption) | exact Nat.le_trans (by assumption) (by decide))) | (rw [← hxl]; (first | assumption | exact Int.le_of_lt (by assumption) | exact Nat.le_trans (by assumption) (by decide))) | (rw [← hxy]; (first | assumption | exact Int.le_of_lt (by assumption) | exact Nat.le_trans (by assumption) (by decide))) | omega) ?_))) | ((k_here; (with_reducible show wpAny _ _ (eval (Expr.Subscript _ (Expr.Slice none (some (Expr.BoolOp _ _ _)) none _) _) _) _ _ _); (with_reducible rename Fr _ _ _ _ => zF'); (with_reducible rename News _ _ _ _ => zN'); k_dflt (refine post_slice zF' zN' (by rfl) (by rfl) (by assumption) (by first | assumption | exact Int.le_of_lt (by assumption) | exact Nat.le_trans (by assumption) (by decide) | (rw [← hl]; (first | assumption | exact Int.le_of_lt (by assumption) | exact Nat.le_trans (by assumption) (by decide))) | (rw [← hxl]; (first | assumption | exact Int.le_of_lt (by assumption) | exact Nat.le_trans (by assumption) (by decide))) | (rw [← hxy]; (first | assumption | exact Int.le_of_lt (by assumption) | exact Nat.le_trans (by assumption) (by decide))) | omega) (by first | assumption | exact Int.le_of_lt (by assumption) | exact Nat.le_trans (by assumption) (by decide) | (rw [← hl]; (first | assumption | exact Int.le_of_lt (by assumption) | exact Nat.le_trans (by assumption) (by decide))) | (rw [← hxl]; (first | assumption | exact Int.le_of_lt (by assumption) | exact Nat.le_trans (by assumption) (by decide))) | (rw [← hxy]; (first | assumption | exact Int.le_of_lt (by assumption) | exact Nat.le_trans (by assumption) (by decide))) | omega) (by rfl) (by rfl) (by rfl) (by decide) ?_); intro _ _ _ _ _)) | ((with_reducible show wpAny _ _ (compareOp _ _ _) _ _ _); (refine eq_S ?_)) | ((with_reducible show wpAny _ _ (PySem.truthy _) _ _ _); (k_here; (with_reducible show wpAny _ _ (PySem.truthy (Value.str (S _) _)) _ _ _); (refine truthy_S (ne_of_len (by first | assumption | exact Int.le_of_lt (by assumption) | exact Nat.le_trans (by assumption) (by decide) | (rw [← hl]; (first | assumption | exact Int.le_of_lt (by assumption) | exact Nat.le_trans (by assumption) (by decide))) | (rw [← hxl]; (first | assumption | exact Int.le_of_lt (by assumption) | exact Nat.le_trans (by assumption) (by decide))) | (rw [← hxy]; (first | assumption | exact Int.le_of_lt (by assumption) | exact Nat.le_trans (by assumption) (by decide))) | omega | (simp only [List.length_drop, List.length_take]; omega))) (by first | assumption | exact Int.le_of_lt (by assumption) | exact Nat.le_trans (by assumption) (by decide) | (rw [← hl]; (first | assumption | exact Int.le_of_lt (by assumption) | exact Nat.le_trans (by assumption) (by decide))) | (rw [← hxl]; (first | assumption | exact Int.le_of_lt (by assumption) | exact Nat.le_trans (by assumption) (by decide))) | (rw [← hxy]; (first | assumption | exact Int.le_of_lt (by assumption) | exact Nat.le_trans (by assumption) (by decide))) | omega | (simp only [List.length_drop, List.length_take]; omega)) ?_))) | ((with_reducible show wpAny _ _ (subscriptTail _ _ _ _) _ _ _); (k_here; (with_reducible show wpAny _ _ (subscriptTail _ _ (Value.str (S _) _) (Value.int _ _)) _ _ _); (refine item_S (by first | assumption | exact Int.le_of_lt (by assumption) | exact Nat.le_trans (by assumption) (by decide) | (rw [← hl]; (first | assumption | exact Int.le_of_lt (by assumption) | exact Nat.le_trans (by assumption) (by decide))) | (rw [← hxl]; (first | assumption | exact Int.le_of_lt (by assumption) | exact Nat.le_trans (by assumption) (by decide))) | (rw [← hxy]; (first | assumption | exact Int.le_of_lt (by assumption) | exact Nat.le_trans (by assumption) (by decide))) | omega) (by first | assumption | exact Int.le_of_lt (by assumption) | exact Nat.le_trans (by assumption) (by decide) | (rw [← hl]; (first | assumption | exact Int.le_of_lt (by assumption) | exact Nat.le_trans (by assumption) (by decide))) | (rw [← hxl]; (first | assumption | exact Int.le_of_lt (by assumption) | exact Nat.le_trans (by assumption) (by decide))) | (rw [← hxy]; (first | assumption | exact Int.le_of_lt (by assumption) | exact Nat.le_trans (by assumption) (by decide))) | omega) (by first | assumption | exact Int.le_of_lt (by assumption) | exact Nat.le_trans (by assumption) (by decide) | (rw [← hl]; (first | assumption | exact Int.le_of_lt (by assumption) | exact Nat.le_trans (by assumption) (by decide))) | (rw [← hxl]; (first | assumption | exact Int.le_of_lt (by assumption) | exact Nat.le_trans (by assumption) (by decide))) | (rw [← hxy]; (first | assumption | exact Int.le_of_lt (by assumption) | exact Nat.le_trans (by assumption) (by decide))) | omega) ?_))) | ((with_reducible show wpAny _ _ (subscriptTail _ _ _ _) _ _ _); (k_here; (with_reducible show wpAny _ _ (subscriptTail _ (Expr.Slice (some _) none none _) (Value.str (S _) _) (Value.ref _)) _ _ _); (with_reducible rename Fr _ _ _ _ => zF'); (with_reducible rename News _ _ _ _ => zN'); (refine sl_sn (s := ⟨_, _, _, _, _⟩) zF' zN' (by first | assumption | exact Int.le_of_lt (by assumption) | exact Nat.le_trans (by assumption) (by decide) | (rw [← hl]; (first | assumption | exact Int.le_of_lt (by assumption) | exact Nat.le_trans (by assumption) (by decide))) | (rw [← hxl]; (first | assumption | exact Int.le_of_lt (by assumption) | exact Nat.le_trans (by assumption) (by decide))) | (rw [← hxy]; (first | assumption | exact Int.le_of_lt (by assumption) | exact Nat.le_trans (by assumption) (by decide))) | omega) (by first | assumption | exact Int.le_of_lt (by assumption) | exact Nat.le_trans (by assumption) (by decide) | (rw [← hl]; (first | assumption | exact Int.le_of_lt (by assumption) | exact Nat.le_trans (by assumption) (by decide))) | (rw [← hxl]; (first | assumption | exact Int.le_of_lt (by assumption) | exact Nat.le_trans (by assumption) (by decide))) | (rw [← hxy]; (first | assumption | exact Int.le_of_lt (by assumption) | exact Nat.le_trans (by assumption) (by decide))) | omega) (by first | assumption | exact Int.le_of_lt (by assumption) | exact Nat.le_trans (by assumption) (by decide) | (rw [← hl]; (first | assumption | exact Int.le_of_lt (by assumption) | exact Nat.le_trans (by assumption) (by decide))) | (rw [← hxl]; (first | assumption | exact Int.le_of_lt (by assumption) | exact Nat.le_trans (by assumption) (by decide))) | (rw [← hxy]; (first | assumption | exact Int.le_of_lt (by assumption) | exact Nat.le_trans (by assumption) (by decide))) | omega) ?_); intro _ _ _ _ _))); k_steps) | (refine gp_use (by assumption) ?_; (try dsimp only); k_steps)))
  refine Hold.out ?_
  k_with_none
  k_with "state" => exact o_start
  k_with "for" => (k_of "index" => refine Hold.mk ?_)
  k_with "pyIter ref" => (k_of "bindex" => k_state (fun pre row result => row = rowJ x2 y2 pre.length ∧ (pre ≠ [] → result = Ed x2 y2 pre.length x2.length)) "row" "result")
  (k_steps; repeat' (first | ((refine Hold.out ?_; first | (((rename News _ _ _ _ => znE'); (try simp only [List.push_toArray] at znE'); k_dflt first | (refine kst_end ⟨_,_,_,_,_,_,_,_,_⟩ (by assumption) znE' (by ((try dsimp only); refine List.forall_mem_cons.mpr ⟨List.mem_cons_self, ?_⟩; first | exact List.forall_mem_nil _ | (intro p hp; kst_mem))) (by first | (intro p hp; kst_mem) | kst_anyIn) (by rfl) (by kst_facts) (by kst_all) (by kst_same) (by kst_p)) | (refine kst_end ⟨_,_,_,_,_⟩ (by assumption) znE' (by ((try dsimp only); refine List.forall_mem_cons.mpr ⟨List.mem_cons_self, ?_⟩; first | exact List.forall_mem_nil _ | (intro p hp; kst_mem))) (by first | (intro p hp; kst_mem) | kst_anyIn) (by rfl) (by kst_facts) (by kst_all) (by kst_same) (by kst_p)))) | ((with_reducible show wpAny _ _ (call (Value.ref _) _) _ _ _); (k_here; k_dflt (refine' subst_use ?c1 ?c2 ?k1 ?k2 ?k3 ?k4 ?k5 ?kK ?kd ?ku ?_; (case c1 => simp [S, Str.length]); (case c2 => simp [S, Str.length]); (case k1 => k_asm); (case k2 => k_asm); (case k3 => k_asm); (case k4 => k_asm); (case k5 => k_asm); (case kK => first | exact rfl | assumption); (case kd => ktr_room); (case ku => ktr_units)); intro _ _ _ _ _; (try dsimp only); (try k_fold))) | ((k_here; (with_reducible show wpAny _ _ (call (Value.type _) [Value.ref _]) _ _ _); (rename IsRange _ _ _ _ _ _ _ _ => rgX); (with_reducible rename Fr _ _ _ _ => zF'); (with_reducible rename News _ _ _ _ => zN'); k_dflt (refine list_rng2 rfl zF' zN' rgX (by first | assumption | exact Int.le_of_lt (by assumption) | exact Nat.le_trans (by assumption) (by decide) | (rw [← hl]; (first | assumption | exact Int.le_of_lt (by assumption) | exact Nat.le_trans (by assumption) (by decide))) | (rw [← hxl]; (first | assumption | exact Int.le_of_lt (by assumption) | exact Nat.le_trans (by assumption) (by decide))) | (rw [← hxy]; (first | assumption | exact Int.le_of_lt (by assumption) | exact Nat.le_trans (by assumption) (by decide))) | omega) ?_); intro _ _ _ _ _ _ _ _ _)) | (((try dsimp only); (with_reducible show wpAny _ _ (call (Value.builtin "len") _) _ _ _)); (with_reducible show wpAny _ _ (call (Value.builtin _) [Value.str (S _) _]) _ _ _; refine len_S (by first | assumption | exact Int.le_of_lt (by assumption) | exact Nat.le_trans (by assumption) (by decide) | (rw [← hl]; (first | assumption | exact Int.le_of_lt (by assumption) | exact Nat.le_trans (by assumption) (by decide))) | (rw [← hxl]; (first | assumption | exact Int.le_of_lt (by assumption) | exact Nat.le_trans (by assumption) (by decide))) | (rw [← hxy]; (first | assumption | exact Int.le_of_lt (by assumption) | exact Nat.le_trans (by assumption) (by decide))) | omega) ?_)) | ((with_reducible show wpAny _ _ (subscriptTail _ _ _ _) _ _ _); (k_here; (with_reducible show wpAny _ _ (subscriptTail _ _ (Value.str (S _) _) (Value.int _ _)) _ _ _); (refine itemN_S (by first | assumption | exact Int.le_of_lt (by assumption) | exact Nat.le_trans (by assumption) (by decide) | (rw [← hl]; (first | assumption | exact Int.le_of_lt (by assumption) | exact Nat.le_trans (by assumption) (by decide))) | (rw [← hxl]; (first | assumption | exact Int.le_of_lt (by assumption) | exact Nat.le_trans (by assumption) (by decide))) | (rw [← hxy]; (first | assumption | exact Int.le_of_lt (by assumption) | exact Nat.le_trans (by assumption) (by decide))) | omega) (by first | assumption | exact Int.le_of_lt (by assumption) | exact Nat.le_trans (by assumption) (by decide) | (rw [← hl]; (first | assumption | exact Int.le_of_lt (by assumption) | exact Nat.le_trans (by assumption) (by decide))) | (rw [← hxl]; (first | assumption | exact Int.le_of_lt (by assumption) | exact Nat.le_trans (by assumption) (by decide))) | (rw [← hxy]; (first | assumption | exact Int.le_of_lt (by assumption) | exact Nat.le_trans (by assumption) (by decide))) | omega) (by first | assumption | exact Int.le_of_lt (by assumption) | exact Nat.le_trans (by assumption) (by decide) | (rw [← hl]; (first | assumption | exact Int.le_of_lt (by assumption) | exact Nat.le_trans (by assumption) (by decide))) | (rw [← hxl]; (first | assumption | exact Int.le_of_lt (by assumption) | exact Nat.le_trans (by assumption) (by decide))) | (rw [← hxy]; (first | assumption | exact Int.le_of_lt (by assumption) | exact Nat.le_trans (by assumption) (by decide))) | omega) ?_))) | ((k_here; (with_reducible show wpAny _ _ (eval (Expr.Subscript _ (Expr.Slice none (some (Expr.BoolOp _ _ _)) none _) _) _) _ _ _); (with_reducible rename Fr _ _ _ _ => zF'); (with_reducible rename News _ _ _ _ => zN'); k_dflt (refine post_slice zF' zN' (by rfl) (by rfl) (by assumption) (by first | assumption | exact Int.le_of_lt (by assumption) | exact Nat.le_trans (by assumption) (by decide) | (rw [← hl]; (first | assumption | exact Int.le_of_lt (by assumption) | exact Nat.le_trans (by assumption) (by decide))) | (rw [← hxl]; (first | assumption | exact Int.le_of_lt (by assumption) | exact Nat.le_trans (by assumption) (by decide))) | (rw [← hxy]; (first | assumption | exact Int.le_of_lt (by assumption) | exact Nat.le_trans (by assumption) (by decide))) | omega) (by first | assumption | exact Int.le_of_lt (by assumption) | exact Nat.le_trans (by assumption) (by decide) | (rw [← hl]; (first | assumption | exact Int.le_of_lt (by assumption) | exact Nat.le_trans (by assumption) (by decide))) | (rw [← hxl]; (first | assumption | exact Int.le_of_lt (by assumption) | exact Nat.le_trans (by assumption) (by decide))) | (rw [← hxy]; (first | assumption | exact Int.le_of_lt (by assumption) | exact Nat.le_trans (by assumption) (by decide))) | omega) (by rfl) (by rfl) (by rfl) (by decide) ?_); intro _ _ _ _ _)) | ((with_reducible show wpAny _ _ (compareOp _ _ _) _ _ _); (refine eq_S ?_)) | ((with_reducible show wpAny _ _ (PySem.truthy _) _ _ _); (k_here; (with_reducible show wpAny _ _ (PySem.truthy (Value.str (S _) _)) _ _ _); (refine truthy_S (ne_of_len (by first | assumption | exact Int.le_of_lt (by assumption) | exact Nat.le_trans (by assumption) (by decide) | (rw [← hl]; (first | assumption | exact Int.le_of_lt (by assumption) | exact Nat.le_trans (by assumption) (by decide))) | (rw [← hxl]; (first | assumption | exact Int.le_of_lt (by assumption) | exact Nat.le_trans (by assumption) (by decide))) | (rw [← hxy]; (first | assumption | exact Int.le_of_lt (by assumption) | exact Nat.le_trans (by assumption) (by decide))) | omega | (simp only [List.length_drop, List.length_take]; omega))) (by first | assumption | exact Int.le_of_lt (by assumption) | exact Nat.le_trans (by assumption) (by decide) | (rw [← hl]; (first | assumption | exact Int.le_of_lt (by assumption) | exact Nat.le_trans (by assumption) (by decide))) | (rw [← hxl]; (first | assumption | exact Int.le_of_lt (by assumption) | exact Nat.le_trans (by assumption) (by decide))) | (rw [← hxy]; (first | assumption | exact Int.le_of_lt (by assumption) | exact Nat.le_trans (by assumption) (by decide))) | omega | (simp only [List.length_drop, List.length_take]; omega)) ?_))) | ((with_reducible show wpAny _ _ (subscriptTail _ _ _ _) _ _ _); (k_here; (with_reducible show wpAny _ _ (subscriptTail _ _ (Value.str (S _) _) (Value.int _ _)) _ _ _); (refine item_S (by first | assumption | exact Int.le_of_lt (by assumption) | exact Nat.le_trans (by assumption) (by decide) | (rw [← hl]; (first | assumption | exact Int.le_of_lt (by assumption) | exact Nat.le_trans (by assumption) (by decide))) | (rw [← hxl]; (first | assumption | exact Int.le_of_lt (by assumption) | exact Nat.le_trans (by assumption) (by decide))) | (rw [← hxy]; (first | assumption | exact Int.le_of_lt (by assumption) | exact Nat.le_trans (by assumption) (by decide))) | omega) (by first | assumption | exact Int.le_of_lt (by assumption) | exact Nat.le_trans (by assumption) (by decide) | (rw [← hl]; (first | assumption | exact Int.le_of_lt (by assumption) | exact Nat.le_trans (by assumption) (by decide))) | (rw [← hxl]; (first | assumption | exact Int.le_of_lt (by assumption) | exact Nat.le_trans (by assumption) (by decide))) | (rw [← hxy]; (first | assumption | exact Int.le_of_lt (by assumption) | exact Nat.le_trans (by assumption) (by decide))) | omega) (by first | assumption | exact Int.le_of_lt (by assumption) | exact Nat.le_trans (by assumption) (by decide) | (rw [← hl]; (first | assumption | exact Int.le_of_lt (by assumption) | exact Nat.le_trans (by assumption) (by decide))) | (rw [← hxl]; (first | assumption | exact Int.le_of_lt (by assumption) | exact Nat.le_trans (by assumption) (by decide))) | (rw [← hxy]; (first | assumption | exact Int.le_of_lt (by assumption) | exact Nat.le_trans (by assumption) (by decide))) | omega) ?_))) | ((with_reducible show wpAny _ _ (subscriptTail _ _ _ _) _ _ _); (k_here; (with_reducible show wpAny _ _ (subscriptTail _ (Expr.Slice (some _) none none _) (Value.str (S _) _) (Value.ref _)) _ _ _); (with_reducible rename Fr _ _ _ _ => zF'); (with_reducible rename News _ _ _ _ => zN'); (refine sl_sn (s := ⟨_, _, _, _, _⟩) zF' zN' (by first | assumption | exact Int.le_of_lt (by assumption) | exact Nat.le_trans (by assumption) (by decide) | (rw [← hl]; (first | assumption | exact Int.le_of_lt (by assumption) | exact Nat.le_trans (by assumption) (by decide))) | (rw [← hxl]; (first | assumption | exact Int.le_of_lt (by assumption) | exact Nat.le_trans (by assumption) (by decide))) | (rw [← hxy]; (first | assumption | exact Int.le_of_lt (by assumption) | exact Nat.le_trans (by assumption) (by decide))) | omega) (by first | assumption | exact Int.le_of_lt (by assumption) | exact Nat.le_trans (by assumption) (by decide) | (rw [← hl]; (first | assumption | exact Int.le_of_lt (by assumption) | exact Nat.le_trans (by assumption) (by decide))) | (rw [← hxl]; (first | assumption | exact Int.le_of_lt (by assumption) | exact Nat.le_trans (by assumption) (by decide))) | (rw [← hxy]; (first | assumption | exact Int.le_of_lt (by assumption) | exact Nat.le_trans (by assumption) (by decide))) | omega) (by first | assumption | exact Int.le_of_lt (by assumption) | exact Nat.le_trans (by assumption) (by decide) | (rw [← hl]; (first | assumption | exact Int.le_of_lt (by assumption) | exact Nat.le_trans (by assumption) (by decide))) | (rw [← hxl]; (first | assumption | exact Int.le_of_lt (by assumption) | exact Nat.le_trans (by assumption) (by decide))) | (rw [← hxy]; (first | assumption | exact Int.le_of_lt (by assumption) | exact Nat.le_trans (by assumption) (by decide))) | omega) ?_); intro _ _ _ _ _))); k_steps) | (refine gp_use (by assumption) ?_; (try dsimp only); k_steps)))
  · rename List Int => kPre
    rename Int => kN
    rename kN = 0 + (kPre.length : Int) => hkN
    rename kPre.length < (((y2.length : Int) - 0).toNat) => hkl
    refine Hold.out ?_
    k_with_none
    have hmax2 : T0 x2 y2 ≤ 8 := by rw [← hT2, ← hT]; exact hmax
    k_with "state" => first | (refine ⟨?_, inn_start (by assumption) (by assumption) rfl⟩; simp only [*, rowJ, List.length_map, List.length_range]; done) | exact inn_turn1 hxy hyo hmax2 (by assumption) (by assumption) (by assumption) (by assumption) (by assumption) (by assumption) ⟨fun _ => rfl, fun hc => absurd (by assumption) hc⟩ | exact inn_turn1 hxy hyo hmax2 (by assumption) (by assumption) (by assumption) (by assumption) (by assumption) (by assumption) ⟨fun hc => absurd hc (by assumption), fun _ => rfl⟩ | exact inn_out hxy hn0 (by assumption) (by assumption)
    k_with "pyIter ref" => (k_of "index" => k_state (fun pre row result distance minimum => row.length = x2.length ∧ Inn x2 y2 kPre.length pre.length row result distance minimum) "row" "result" "distance" "minimum")
    (k_steps; repeat' (first | ((refine Hold.out ?_; first | (((rename News _ _ _ _ => znE'); (try simp only [List.push_toArray] at znE'); k_dflt first | (refine kst_end ⟨_,_,_,_,_,_,_,_,_⟩ (by assumption) znE' (by ((try dsimp only); refine List.forall_mem_cons.mpr ⟨List.mem_cons_self, ?_⟩; first | exact List.forall_mem_nil _ | (intro p hp; kst_mem))) (by first | (intro p hp; kst_mem) | kst_anyIn) (by rfl) (by kst_facts) (by kst_all) (by kst_same) (by kst_p)) | (refine kst_end ⟨_,_,_,_,_⟩ (by assumption) znE' (by ((try dsimp only); refine List.forall_mem_cons.mpr ⟨List.mem_cons_self, ?_⟩; first | exact List.forall_mem_nil _ | (intro p hp; kst_mem))) (by first | (intro p hp; kst_mem) | kst_anyIn) (by rfl) (by kst_facts) (by kst_all) (by kst_same) (by kst_p)))) | ((with_reducible show wpAny _ _ (call (Value.ref _) _) _ _ _); (k_here; k_dflt (refine' subst_use ?c1 ?c2 ?k1 ?k2 ?k3 ?k4 ?k5 ?kK ?kd ?ku ?_; (case c1 => simp [S, Str.length]); (case c2 => simp [S, Str.length]); (case k1 => k_asm); (case k2 => k_asm); (case k3 => k_asm); (case k4 => k_asm); (case k5 => k_asm); (case kK => first | exact rfl | assumption); (case kd => ktr_room); (case ku => ktr_units)); intro _ _ _ _ _; (try dsimp only); (try k_fold))) | ((k_here; (with_reducible show wpAny _ _ (call (Value.type _) [Value.ref _]) _ _ _); (rename IsRange _ _ _ _ _ _ _ _ => rgX); (with_reducible rename Fr _ _ _ _ => zF'); (with_reducible rename News _ _ _ _ => zN'); k_dflt (refine list_rng2 rfl zF' zN' rgX (by first | assumption | exact Int.le_of_lt (by assumption) | exact Nat.le_trans (by assumption) (by decide) | (rw [← hl]; (first | assumption | exact Int.le_of_lt (by assumption) | exact Nat.le_trans (by assumption) (by decide))) | (rw [← hxl]; (first | assumption | exact Int.le_of_lt (by assumption) | exact Nat.le_trans (by assumption) (by decide))) | (rw [← hxy]; (first | assumption | exact Int.le_of_lt (by assumption) | exact Nat.le_trans (by assumption) (by decide))) | omega) ?_); intro _ _ _ _ _ _ _ _ _)) | (((try dsimp only); (with_reducible show wpAny _ _ (call (Value.builtin "len") _) _ _ _)); (with_reducible show wpAny _ _ (call (Value.builtin _) [Value.str (S _) _]) _ _ _; refine len_S (by first | assumption | exact Int.le_of_lt (by assumption) | exact Nat.le_trans (by assumption) (by decide) | (rw [← hl]; (first | assumption | exact Int.le_of_lt (by assumption) | exact Nat.le_trans (by assumption) (by decide))) | (rw [← hxl]; (first | assumption | exact Int.le_of_lt (by assumption) | exact Nat.le_trans (by assumption) (by decide))) | (rw [← hxy]; (first | assumption | exact Int.le_of_lt (by assumption) | exact Nat.le_trans (by assumption) (by decide))) | omega) ?_)) | ((with_reducible show wpAny _ _ (subscriptTail _ _ _ _) _ _ _); (k_here; (with_reducible show wpAny _ _ (subscriptTail _ _ (Value.str (S _) _) (Value.int _ _)) _ _ _); (refine itemN_S (by first | assumption | exact Int.le_of_lt (by assumption) | exact Nat.le_trans (by assumption) (by decide) | (rw [← hl]; (first | assumption | exact Int.le_of_lt (by assumption) | exact Nat.le_trans (by assumption) (by decide))) | (rw [← hxl]; (first | assumption | exact Int.le_of_lt (by assumption) | exact Nat.le_trans (by assumption) (by decide))) | (rw [← hxy]; (first | assumption | exact Int.le_of_lt (by assumption) | exact Nat.le_trans (by assumption) (by decide))) | omega) (by first | assumption | exact Int.le_of_lt (by assumption) | exact Nat.le_trans (by assumption) (by decide) | (rw [← hl]; (first | assumption | exact Int.le_of_lt (by assumption) | exact Nat.le_trans (by assumption) (by decide))) | (rw [← hxl]; (first | assumption | exact Int.le_of_lt (by assumption) | exact Nat.le_trans (by assumption) (by decide))) | (rw [← hxy]; (first | assumption | exact Int.le_of_lt (by assumption) | exact Nat.le_trans (by assumption) (by decide))) | omega) (by first | assumption | exact Int.le_of_lt (by assumption) | exact Nat.le_trans (by assumption) (by decide) | (rw [← hl]; (first | assumption | exact Int.le_of_lt (by assumption) | exact Nat.le_trans (by assumption) (by decide))) | (rw [← hxl]; (first | assumption | exact Int.le_of_lt (by assumption) | exact Nat.le_trans (by assumption) (by decide))) | (rw [← hxy]; (first | assumption | exact Int.le_of_lt (by assumption) | exact Nat.le_trans (by assumption) (by decide))) | omega) ?_))) | ((k_here; (with_reducible show wpAny _ _ (eval (Expr.Subscript _ (Expr.Slice none (some (Expr.BoolOp _ _ _)) none _) _) _) _ _ _); (with_reducible rename Fr _ _ _ _ => zF'); (with_reducible rename News _ _ _ _ => zN'); k_dflt (refine post_slice zF' zN' (by rfl) (by rfl) (by assumption) (by first | assumption | exact Int.le_of_lt (by assumption) | exact Nat.le_trans (by assumption) (by decide) | (rw [← hl]; (first | assumption | exact Int.le_of_lt (by assumption) | exact Nat.le_trans (by assumption) (by decide))) | (rw [← hxl]; (first | assumption | exact Int.le_of_lt (by assumption) | exact Nat.le_trans (by assumption) (by decide))) | (rw [← hxy]; (first | assumption | exact Int.le_of_lt (by assumption) | exact Nat.le_trans (by assumption) (by decide))) | omega) (by first | assumption | exact Int.le_of_lt (by assumption) | exact Nat.le_trans (by assumption) (by decide) | (rw [← hl]; (first | assumption | exact Int.le_of_lt (by assumption) | exact Nat.le_trans (by assumption) (by decide))) | (rw [← hxl]; (first | assumption | exact Int.le_of_lt (by assumption) | exact Nat.le_trans (by assumption) (by decide))) | (rw [← hxy]; (first | assumption | exact Int.le_of_lt (by assumption) | exact Nat.le_trans (by assumption) (by decide))) | omega) (by rfl) (by rfl) (by rfl) (by decide) ?_); intro _ _ _ _ _)) | ((with_reducible show wpAny _ _ (compareOp _ _ _) _ _ _); (refine eq_S ?_)) | ((with_reducible show wpAny _ _ (PySem.truthy _) _ _ _); (k_here; (with_reducible show wpAny _ _ (PySem.truthy (Value.str (S _) _)) _ _ _); (refine truthy_S (ne_of_len (by first | assumption | exact Int.le_of_lt (by assumption) | exact Nat.le_trans (by assumption) (by decide) | (rw [← hl]; (first | assumption | exact Int.le_of_lt (by assumption) | exact Nat.le_trans (by assumption) (by decide))) | (rw [← hxl]; (first | assumption | exact Int.le_of_lt (by assumption) | exact Nat.le_trans (by assumption) (by decide))) | (rw [← hxy]; (first | assumption | exact Int.le_of_lt (by assumption) | exact Nat.le_trans (by assumption) (by decide))) | omega | (simp only [List.length_drop, List.length_take]; omega))) (by first | assumption | exact Int.le_of_lt (by assumption) | exact Nat.le_trans (by assumption) (by decide) | (rw [← hl]; (first | assumption | exact Int.le_of_lt (by assumption) | exact Nat.le_trans (by assumption) (by decide))) | (rw [← hxl]; (first | assumption | exact Int.le_of_lt (by assumption) | exact Nat.le_trans (by assumption) (by decide))) | (rw [← hxy]; (first | assumption | exact Int.le_of_lt (by assumption) | exact Nat.le_trans (by assumption) (by decide))) | omega | (simp only [List.length_drop, List.length_take]; omega)) ?_))) | ((with_reducible show wpAny _ _ (subscriptTail _ _ _ _) _ _ _); (k_here; (with_reducible show wpAny _ _ (subscriptTail _ _ (Value.str (S _) _) (Value.int _ _)) _ _ _); (refine item_S (by first | assumption | exact Int.le_of_lt (by assumption) | exact Nat.le_trans (by assumption) (by decide) | (rw [← hl]; (first | assumption | exact Int.le_of_lt (by assumption) | exact Nat.le_trans (by assumption) (by decide))) | (rw [← hxl]; (first | assumption | exact Int.le_of_lt (by assumption) | exact Nat.le_trans (by assumption) (by decide))) | (rw [← hxy]; (first | assumption | exact Int.le_of_lt (by assumption) | exact Nat.le_trans (by assumption) (by decide))) | omega) (by first | assumption | exact Int.le_of_lt (by assumption) | exact Nat.le_trans (by assumption) (by decide) | (rw [← hl]; (first | assumption | exact Int.le_of_lt (by assumption) | exact Nat.le_trans (by assumption) (by decide))) | (rw [← hxl]; (first | assumption | exact Int.le_of_lt (by assumption) | exact Nat.le_trans (by assumption) (by decide))) | (rw [← hxy]; (first | assumption | exact Int.le_of_lt (by assumption) | exact Nat.le_trans (by assumption) (by decide))) | omega) (by first | assumption | exact Int.le_of_lt (by assumption) | exact Nat.le_trans (by assumption) (by decide) | (rw [← hl]; (first | assumption | exact Int.le_of_lt (by assumption) | exact Nat.le_trans (by assumption) (by decide))) | (rw [← hxl]; (first | assumption | exact Int.le_of_lt (by assumption) | exact Nat.le_trans (by assumption) (by decide))) | (rw [← hxy]; (first | assumption | exact Int.le_of_lt (by assumption) | exact Nat.le_trans (by assumption) (by decide))) | omega) ?_))) | ((with_reducible show wpAny _ _ (subscriptTail _ _ _ _) _ _ _); (k_here; (with_reducible show wpAny _ _ (subscriptTail _ (Expr.Slice (some _) none none _) (Value.str (S _) _) (Value.ref _)) _ _ _); (with_reducible rename Fr _ _ _ _ => zF'); (with_reducible rename News _ _ _ _ => zN'); (refine sl_sn (s := ⟨_, _, _, _, _⟩) zF' zN' (by first | assumption | exact Int.le_of_lt (by assumption) | exact Nat.le_trans (by assumption) (by decide) | (rw [← hl]; (first | assumption | exact Int.le_of_lt (by assumption) | exact Nat.le_trans (by assumption) (by decide))) | (rw [← hxl]; (first | assumption | exact Int.le_of_lt (by assumption) | exact Nat.le_trans (by assumption) (by decide))) | (rw [← hxy]; (first | assumption | exact Int.le_of_lt (by assumption) | exact Nat.le_trans (by assumption) (by decide))) | omega) (by first | assumption | exact Int.le_of_lt (by assumption) | exact Nat.le_trans (by assumption) (by decide) | (rw [← hl]; (first | assumption | exact Int.le_of_lt (by assumption) | exact Nat.le_trans (by assumption) (by decide))) | (rw [← hxl]; (first | assumption | exact Int.le_of_lt (by assumption) | exact Nat.le_trans (by assumption) (by decide))) | (rw [← hxy]; (first | assumption | exact Int.le_of_lt (by assumption) | exact Nat.le_trans (by assumption) (by decide))) | omega) (by first | assumption | exact Int.le_of_lt (by assumption) | exact Nat.le_trans (by assumption) (by decide) | (rw [← hl]; (first | assumption | exact Int.le_of_lt (by assumption) | exact Nat.le_trans (by assumption) (by decide))) | (rw [← hxl]; (first | assumption | exact Int.le_of_lt (by assumption) | exact Nat.le_trans (by assumption) (by decide))) | (rw [← hxy]; (first | assumption | exact Int.le_of_lt (by assumption) | exact Nat.le_trans (by assumption) (by decide))) | omega) ?_); intro _ _ _ _ _))); k_steps) | (refine gp_use (by assumption) ?_; (try dsimp only); k_steps)))
    exact (inn_bad hxy hn0 (by assumption) (by assumption) (by assumption)).elim
  · rename rangeKs _ _ ≠ [] → _ => hright
    have hv := ed_end hxy hn0 hright
    rw [hT, hT2, hv] at hret
    rename News h₀ _ _ _ => nE'
    exact hret _ _ _ (by assumption) (cb_drop nE' (by intro p hp; repeat' (first | exact hp | refine List.Mem.tail _ ?_)))
end
-- P0 (0)
section
open PySem PySem.W PyProof.Rows
/-- power of two places -/
def pw (xs : List (List Nat)) (b : Int) (i j : Nat) : Int := b ^ (T0 (xs.getD i []) (xs.getD j [])).toNat
/-- the table when all pairs below late are told, and of late those with soon below s -/
def matL (xs : List (List Nat)) (b : Int) (k s i j : Nat) : Int :=
  if i = j then 1 else if max i j < k ∨ (max i j = k ∧ min i j < s) then pw xs b (max i j) (min i j) else 1
def matRow (xs : List (List Nat)) (b : Int) (k s i : Nat) : List Int := (List.range 5).map (matL xs b k s i)
theorem matRow_len (xs : List (List Nat)) (b : Int) (k s i : Nat) : (matRow xs b k s i).length = 5 := by simp [matRow]
theorem matRow_zero (xs : List (List Nat)) (b : Int) (i : Nat) : matRow xs b 0 0 i = [1, 1, 1, 1, 1] := by
  have e : ∀ j, matL xs b 0 0 i j = 1 := fun j => by
    unfold matL
    split
    · rfl
    · rw [if_neg (by omega)]
  simp [matRow, List.range, List.range.loop, e]
theorem matRow_next (xs : List (List Nat)) (b : Int) (k i : Nat) : matRow xs b k k i = matRow xs b (k + 1) 0 i := by
  unfold matRow
  refine List.map_congr_left fun j _ => ?_
  unfold matL
  by_cases h : i = j
  · rw [if_pos h, if_pos h]
  · rw [if_neg h, if_neg h]
    by_cases h1 : max i j < k ∨ (max i j = k ∧ min i j < k)
    · rw [if_pos h1, if_pos (by omega)]
    · rw [if_neg h1, if_neg (by omega)]
theorem cond_same {k s i j : Nat} (hs : s < k) (h1 : ¬ (i = k ∧ j = s)) (h2 : ¬ (i = s ∧ j = k)) : (max i j < k ∨ (max i j = k ∧ min i j < s)) ↔ (max i j < k ∨ (max i j = k ∧ min i j < s + 1)) := by omega
theorem matL_same {xs : List (List Nat)} {b : Int} {k s i j : Nat} (hs : s < k) (h1 : ¬ (i = k ∧ j = s)) (h2 : ¬ (i = s ∧ j = k)) : matL xs b k s i j = matL xs b k (s + 1) i j := by
  unfold matL
  by_cases h : i = j
  · rw [if_pos h, if_pos h]
  · rw [if_neg h, if_neg h]
    have c := cond_same hs h1 h2
    by_cases h3 : max i j < k ∨ (max i j = k ∧ min i j < s)
    · rw [if_pos h3, if_pos (c.mp h3)]
    · rw [if_neg h3, if_neg fun x => h3 (c.mpr x)]
theorem matL_late {xs : List (List Nat)} {b : Int} {k s : Nat} (hs : s < k) : matL xs b k (s + 1) k s = pw xs b k s := by
  unfold matL
  rw [if_neg (Nat.ne_of_gt hs), Nat.max_eq_left (Nat.le_of_lt hs), Nat.min_eq_right (Nat.le_of_lt hs), if_pos (.inr ⟨rfl, Nat.lt_succ_self s⟩)]
theorem matL_soon {xs : List (List Nat)} {b : Int} {k s : Nat} (hs : s < k) : matL xs b k (s + 1) s k = pw xs b k s := by
  unfold matL
  rw [if_neg (Nat.ne_of_lt hs), Nat.max_eq_right (Nat.le_of_lt hs), Nat.min_eq_left (Nat.le_of_lt hs), if_pos (.inr ⟨rfl, Nat.lt_succ_self s⟩)]
theorem matRow_late {xs : List (List Nat)} {b : Int} {k s : Nat} (hs : s < k) (hk : k < 5) : (matRow xs b k s k).set s (pw xs b k s) = matRow xs b k (s + 1) k := by
  apply List.ext_getElem
  · rw [List.length_set, matRow_len, matRow_len]
  intro j h1 h2
  have hj : j < 5 := by rw [matRow_len] at h2; exact h2
  rw [List.getElem_set]
  simp only [matRow, List.getElem_map, List.getElem_range]
  by_cases e : s = j
  · subst e
    rw [if_pos rfl, matL_late hs]
  · rw [if_neg e]
    exact matL_same hs (fun x => e x.2.symm) (fun x => Nat.ne_of_lt hs x.1.symm)
theorem matRow_soon {xs : List (List Nat)} {b : Int} {k s : Nat} (hs : s < k) (hk : k < 5) : (matRow xs b k s s).set k (pw xs b k s) = matRow xs b k (s + 1) s := by
  apply List.ext_getElem
  · rw [List.length_set, matRow_len, matRow_len]
  intro j h1 h2
  have hj : j < 5 := by rw [matRow_len] at h2; exact h2
  rw [List.getElem_set]
  simp only [matRow, List.getElem_map, List.getElem_range]
  by_cases e : k = j
  · subst e
    rw [if_pos rfl, matL_soon hs]
  · rw [if_neg e]
    exact matL_same hs (fun x => Nat.ne_of_lt hs x.1) (fun x => e x.2.symm)
theorem matRow_other {xs : List (List Nat)} {b : Int} {k s i : Nat} (hs : s < k) (h1 : i ≠ k) (h2 : i ≠ s) : matRow xs b k s i = matRow xs b k (s + 1) i := by
  unfold matRow
  refine List.map_congr_left fun j _ => ?_
  exact matL_same hs (fun x => h1 x.1) (fun x => h2 x.1)
/-- the rows' ledger -/
def rowsLed (R : Nat → Addr) (Tl : Addr) (nT : Nat) (base : List (Addr × Obj)) (c : Nat → List Value) : List (Addr × Obj) :=
  (Tl, listOf (List.toArray [.ref (R 0), .ref (R 1), .ref (R 2), .ref (R 3), .ref (R 4)]) nT) :: (R 0, listOf (List.toArray (c 0)) 0) :: (R 1, listOf (List.toArray (c 1)) 0) :: (R 2, listOf (List.toArray (c 2)) 0) :: (R 3, listOf (List.toArray (c 3)) 0) :: (R 4, listOf (List.toArray (c 4)) 0) :: base
structure Apart (R : Nat → Addr) (Tl : Addr) (base : List (Addr × Obj)) : Prop where
  r : ∀ i j, i < 5 → j < 5 → i ≠ j → R i ≠ R j
  t : ∀ i, i < 5 → Tl ≠ R i
  b : ∀ i, i < 5 → ∀ p ∈ base, p.1 ≠ R i
def put (c : Nat → List Value) (i : Nat) (us : List Value) : Nat → List Value := fun j => if j = i then us else c j
theorem put_same {c : Nat → List Value} {i : Nat} {us : List Value} : put c i us i = us := if_pos rfl
theorem put_ne {c : Nat → List Value} {i j : Nat} {us : List Value} (h : j ≠ i) : put c i us j = c j := if_neg h
theorem rows_upd {R : Nat → Addr} {Tl : Addr} {nT : Nat} {base : List (Addr × Obj)} {c : Nat → List Value} {i : Nat} {us : List Value} (a : Apart R Tl base) (hi : i < 5) (own : List (Addr × Obj)) (ho : ∀ p ∈ own, p.1 ≠ R i) :
    Upd (R i) (listOf (List.toArray (c i)) 0) (listOf (List.toArray us) 0) (rowsLed R Tl nT base c ++ own) (rowsLed R Tl nT base (put c i us) ++ own) := by
  have hb : ∀ p ∈ base ++ own, p.1 ≠ R i := fun p hp => (List.mem_append.mp hp).elim (a.b i hi p) (ho p)
  have n : ∀ j, j < 5 → j ≠ i → R j ≠ R i := fun j hj e => a.r j i hj hi e
  unfold rowsLed
  simp only [List.cons_append]
  refine .tail (a.t i hi) ?_
  by_cases h0 : i = 0
  · subst h0
    rw [put_same, put_ne (by decide), put_ne (by decide), put_ne (by decide), put_ne (by decide)]
    exact .head (List.forall_mem_cons.mpr ⟨n 1 (by decide) (by decide), List.forall_mem_cons.mpr ⟨n 2 (by decide) (by decide), List.forall_mem_cons.mpr ⟨n 3 (by decide) (by decide), List.forall_mem_cons.mpr ⟨n 4 (by decide) (by decide), hb⟩⟩⟩⟩)
  rw [put_ne (Ne.symm h0)]
  refine .tail (n 0 (by decide) (Ne.symm h0)) ?_
  by_cases h1 : i = 1
  · subst h1
    rw [put_same, put_ne (by decide), put_ne (by decide), put_ne (by decide)]
    exact .head (List.forall_mem_cons.mpr ⟨n 2 (by decide) (by decide), List.forall_mem_cons.mpr ⟨n 3 (by decide) (by decide), List.forall_mem_cons.mpr ⟨n 4 (by decide) (by decide), hb⟩⟩⟩)
  rw [put_ne (Ne.symm h1)]
  refine .tail (n 1 (by decide) (Ne.symm h1)) ?_
  by_cases h2 : i = 2
  · subst h2
    rw [put_same, put_ne (by decide), put_ne (by decide)]
    exact .head (List.forall_mem_cons.mpr ⟨n 3 (by decide) (by decide), List.forall_mem_cons.mpr ⟨n 4 (by decide) (by decide), hb⟩⟩)
  rw [put_ne (Ne.symm h2)]
  refine .tail (n 2 (by decide) (Ne.symm h2)) ?_
  by_cases h3 : i = 3
  · subst h3
    rw [put_same, put_ne (by decide)]
    exact .head (List.forall_mem_cons.mpr ⟨n 4 (by decide) (by decide), hb⟩)
  rw [put_ne (Ne.symm h3)]
  refine .tail (n 3 (by decide) (Ne.symm h3)) ?_
  have h4 : i = 4 := by omega
  subst h4
  rw [put_same]
  exact .head hb
theorem rows_mem {R : Nat → Addr} {Tl : Addr} {nT : Nat} {base : List (Addr × Obj)} {c : Nat → List Value} {i : Nat} (hi : i < 5) : (R i, listOf (List.toArray (c i)) 0) ∈ rowsLed R Tl nT base c := by
  unfold rowsLed
  rcases i with _ | _ | _ | _ | _ | i
  · exact .tail _ (.head _)
  · exact .tail _ (.tail _ (.head _))
  · exact .tail _ (.tail _ (.tail _ (.head _)))
  · exact .tail _ (.tail _ (.tail _ (.tail _ (.head _))))
  · exact .tail _ (.tail _ (.tail _ (.tail _ (.tail _ (.head _)))))
  · omega
section
variable {prog : Program} {w : World} {A : Around} {E : Value → Shared → Prop} {s : Shared} {h₀ : Heap} {L : Addr} {m : Str → Option Value}
theorem set_row {R : Nat → Addr} {Tl : Addr} {nT : Nat} {base own : List (Addr × Obj)} {c : Nat → List Value} {ns : List Int} {i : Nat} {k x : Int} {t u : Tok} {Q : Unit → Shared → Prop} (a : Apart R Tl base) (F : Fr h₀ L s.heap m) (N : News h₀ L s.heap (rowsLed R Tl nT base c ++ own)) (ho : ∀ p ∈ own, ∀ i, i < 5 → p.1 ≠ R i) (hi : i < 5) (hI : IntsAre (c i) ns) (h0 : 0 ≤ k) (h1 : k < (ns.length : Int)) (h5 : ns.length = 5)
    (h : ∀ h' us, Fr h₀ L h' m → News h₀ L h' (rowsLed R Tl nT base (put c i us) ++ own) → IntsAre us (ns.set k.toNat x) → Q () { s with heap := h' }) :
    wpAny (model prog w) A (setItem (.ref (R i)) (.int k t) (.int x u)) Q E s :=
  ksa_set (vs := c i) F N (rows_upd a hi own fun p hp => ho p hp i hi) hI h0 h1 (by omega) fun h' F' N' hI' _ _ => h h' _ F' N' hI'
theorem told_item {R : Nat → Addr} {Tl : Addr} {nT : Nat} {news : List (Addr × Obj)} {k : Int} {u : Tok} {Q : Value → Shared → Prop} {value slice : Expr} (N : News h₀ L s.heap news) (hm : (Tl, listOf (List.toArray [.ref (R 0), .ref (R 1), .ref (R 2), .ref (R 3), .ref (R 4)]) nT) ∈ news) (h0 : 0 ≤ k) (h1 : k < 5)
    (h : Q (.ref (R k.toNat)) s)
    (hs : subscripted slice false (.ref Tl) (.int k u) = operate [.ref Tl, .int k u] (getItem (.ref Tl) (.int k u)) := by with_unfolding_all rfl) :
    wpAny (model prog w) A (subscriptTail value slice (.ref Tl) (.int k u)) Q E s := by
  refine item_lit N hm h0 (by show k < 5; omega) (Nat.le_of_ble_eq_true rfl) ?_ h hs
  obtain ⟨j, rfl⟩ := Int.eq_ofNat_of_zero_le h0
  have hj : j < 5 := by omega
  rcases j with _ | _ | _ | _ | _ | j
  · rfl
  · rfl
  · rfl
  · rfl
  · rfl
  · omega
theorem text_item {P : Addr} {news : List (Addr × Obj)} {vs : List Value} {xs : List (List Nat)} {c : Nat} {k : Int} {u : Tok} {Q : Value → Shared → Prop} {value slice : Expr} (N : News h₀ L s.heap news) (hm : (P, listOf vs.toArray c) ∈ news) (hR : StrsAre vs xs) (h0 : 0 ≤ k) (h1 : k < (xs.length : Int)) (hsz : xs.length ≤ 8)
    (h : ∀ t, Q (.str (S (xs.getD k.toNat [])) t) s)
    (hs : subscripted slice false (.ref P) (.int k u) = operate [.ref P, .int k u] (getItem (.ref P) (.int k u)) := by with_unfolding_all rfl) :
    wpAny (model prog w) A (subscriptTail value slice (.ref P) (.int k u)) Q E s := by
  have hlen := hR.length
  obtain ⟨t, hv⟩ := hR.get k.toNat (by omega)
  exact item_lit N hm h0 (by omega) (by omega) hv (h t) hs
end
end
-- P1 (10)
section
open PySem PySem.W PyProof.Rows
local macro_rules | `(tactic| walk_at "exec Assign cons ListComp") => `(tactic| (refine Hold.mk ?_))
local macro_rules | `(tactic| walk_at "CompSrc") => `(tactic| refine Hold.mk ?_)
open PySem.Spec PySem.Calls LCg in
theorem compRest_indN {prog : Program} {w : World} {A : Around} {s : Shared} {h₀ : Heap} {L : Addr} {m : Str → Option Value} {env : Env} {elt : Expr} {x : Str} {scope : Scope} {cl : List (Str × Addr)} {S : List (Addr × Obj) → Prop} {P : Nat → Value → Prop} {Fin : List Value → List (Addr × Obj) → Prop} {n : Nat} {news : List (Addr × Obj)}
    (J : Nat → List Value → List (Addr × Obj) → Prop) (h0 : J 0 [] news)
    (step : ∀ i ys nw v I oI C oC D m₂ h tk (E' : Value → Shared → Prop), i < n → J i ys nw → P i v → NsObj oC m₂ → m₂ x = some v → Fr h₀ L h m → News h₀ L h ((I, oI) :: (C, oC) :: (D, lst ys) :: nw) → Off3 I C D nw → ((@Ne Nat I C) ∧ (@Ne Nat I D) ∧ (@Ne Nat C D)) →
      wpAny (model prog w) A (eval elt (compEnvC scope cl C env)) (CompEnd h₀ L m { s with heap := h, toks := tk } I oI C oC D (lst ys) S (fun y news' => J (i + 1) (ys ++ [y]) news')) E' { s with heap := h, toks := tk })
    (fin : ∀ ys nw, J n ys nw → Fin ys nw) : CompRest prog w A h₀ L m env elt x scope cl s S P Fin n 0 [] news := by
  have H : ∀ k i ys nw, i + k = n → J i ys nw → CompRest prog w A h₀ L m env elt x scope cl s S P Fin k i ys nw := by
    intro k
    induction k with
    | zero => intro i ys nw hi hJ; exact .zero (fin ys nw (by rw [Nat.add_zero] at hi; exact hi ▸ hJ))
    | succ k ih =>
      intro i ys nw hi hJ
      refine .succ fun v I oI C oC D m₂ h tk E' hP hC hx F N off ne => ?_
      refine wpAny_mono (step i ys nw v I oI C oC D m₂ h tk E' (by omega) hJ hP hC hx F N off ne) (fun y s' hy => ?_) fun _ _ e => e
      obtain ⟨h', tk', news', e, F', N', o', hS, hJ'⟩ := hy
      exact ⟨h', tk', _, e, F', N', o', hS, ih (i + 1) _ _ (by omega) hJ'⟩
  exact H n 0 [] news (Nat.zero_add n) h0
abbrev row1 (t : Tok) : Obj := listOf #[.int 1 t, .int 1 t, .int 1 t, .int 1 t, .int 1 t] 0
/-- the rows made so far, the latest first -/
inductive RowsJ (base : List (Addr × Obj)) : Nat → List Value → List (Addr × Obj) → Prop
  | nil : RowsJ base 0 [] base
  | snoc {i : Nat} {ys : List Value} {nw : List (Addr × Obj)} {R : Addr} {t : Tok} : RowsJ base i ys nw → (∀ p ∈ nw, p.1 < R) → RowsJ base (i + 1) (ys ++ [.ref R]) ((R, row1 t) :: nw)
theorem RowsJ.mem {base : List (Addr × Obj)} {i : Nat} {ys : List Value} {nw : List (Addr × Obj)} (h : RowsJ base i ys nw) : ∀ p ∈ base, p ∈ nw := by
  induction h with
  | nil => exact fun p hp => hp
  | snoc _ _ ih => exact fun p hp => List.mem_cons_of_mem _ (ih p hp)
theorem mul5 {prog : Program} {w : World} {A : Around} {E : Value → Shared → Prop} {s : Shared} {h₀ : Heap} {L l : Addr} {m : Str → Option Value} {news : List (Addr × Obj)} {t u : Tok} {x : Int} {Q : Value → Shared → Prop} (F : Fr h₀ L s.heap m) (N : News h₀ L s.heap news) (hm : (l, listOf #[.int 1 t] 0) ∈ news) (hx : x = 5)
    (h : ∀ D h', Fr h₀ L h' m → News h₀ L h' ((D, listOf #[.int 1 t, .int 1 t, .int 1 t, .int 1 t, .int 1 t] 0) :: news) → (∀ p ∈ news, p.1 < D) → Q (.ref D) { s with heap := h' }) : wpAny (model prog w) A (binaryOp .Mult (.ref l) (.int x u)) Q E s := by
  subst hx
  refine KMa.mul (vs := [.int 1 t]) F N (PySem.IsL.isList (n := 0) (N _ hm).1) (by decide) (by decide) (Nat.le_of_ble_eq_true rfl) rfl h
local macro_rules | `(tactic| walk_at "binaryOp Mult ref int") => `(tactic| ((with_reducible show wpAny _ _ (binaryOp Operator.Mult (Value.ref _) (Value.int _ _)) _ _ _); refine Hold.mk ?_))
theorem RowsJ.five {base : List (Addr × Obj)} {ys : List Value} {nw : List (Addr × Obj)} (h : RowsJ base (0 + 1 + 1 + 1 + 1 + 1) ys nw) : ∃ (R : Nat → Addr) (t : Nat → Tok), ys = [.ref (R 0), .ref (R 1), .ref (R 2), .ref (R 3), .ref (R 4)] ∧ nw = (R 4, row1 (t 4)) :: (R 3, row1 (t 3)) :: (R 2, row1 (t 2)) :: (R 1, row1 (t 1)) :: (R 0, row1 (t 0)) :: base ∧
    (∀ i j, i < 5 → j < 5 → i ≠ j → R i ≠ R j) ∧ ∀ i, i < 5 → ∀ p ∈ base, p.1 < R i := by
  rcases h with _ | ⟨h4, l4⟩
  rcases h4 with _ | ⟨h3, l3⟩
  rcases h3 with _ | ⟨h2, l2⟩
  rcases h2 with _ | ⟨h1, l1⟩
  rcases h1 with _ | ⟨h0, l0⟩
  rcases h0 with _ | _
  rename_i R4 t4 R3 t3 R2 t2 R1 t1 R0 t0
  have a34 := l4 _ (List.mem_cons_self)
  have a23 := l3 _ (List.mem_cons_self)
  have a12 := l2 _ (List.mem_cons_self)
  have a01 := l1 _ (List.mem_cons_self)
  have b0 := l0
  dsimp only at a34 a23 a12 a01
  refine ⟨fun i => [R0, R1, R2, R3, R4].getD i 0, fun i => [t0, t1, t2, t3, t4].getD i 0, rfl, rfl, ?_, ?_⟩
  · have q01 : @LT.lt Nat _ R0 R1 := a01
    have q12 : @LT.lt Nat _ R1 R2 := a12
    have q23 : @LT.lt Nat _ R2 R3 := a23
    have q34 : @LT.lt Nat _ R3 R4 := a34
    intro i j hi hj e
    rcases i with _ | _ | _ | _ | _ | i <;> rcases j with _ | _ | _ | _ | _ | j <;> first | omega | (refine neN ?_; simp only [List.getD_cons_zero, List.getD_cons_succ]; omega)
  · intro i hi p hp
    have q := b0 p hp
    have q01 : @LT.lt Nat _ R0 R1 := a01
    have q12 : @LT.lt Nat _ R1 R2 := a12
    have q23 : @LT.lt Nat _ R2 R3 := a23
    have q34 : @LT.lt Nat _ R3 R4 := a34
    have q' : @LT.lt Nat _ p.1 R0 := q
    rcases i with _ | _ | _ | _ | _ | i <;> first | omega | (simp only [List.getD_cons_zero, List.getD_cons_succ]; (try show @LT.lt Nat _ _ _); omega)
theorem rows_base {R : Nat → Addr} {Tl : Addr} {nT : Nat} {bs : List (Addr × Obj)} {c : Nat → List Value} {p : Addr × Obj} (h : p ∈ bs) : p ∈ rowsLed R Tl nT bs c := .tail _ (.tail _ (.tail _ (.tail _ (.tail _ (.tail _ h)))))
theorem News.drop2 {h₀ h : Heap} {L : Addr} {news : List (Addr × Obj)} {a b : Addr × Obj} (N : News h₀ L h (a :: b :: news)) : News h₀ L h news := fun p hp => N p (.tail _ (.tail _ hp))
theorem off_rows {R : Nat → Addr} {Tl : Addr} {nT : Nat} {bs own more : List (Addr × Obj)} {c : Nat → List Value} (h : OwnOff own ((rowsLed R Tl nT bs c ++ more).map (·.1))) : ∀ p ∈ own, ∀ i, i < 5 → p.1 ≠ R i := fun p hp i hi => h p hp (R i) (List.mem_map.mpr ⟨_, List.mem_append_left _ (rows_mem hi), rfl⟩)
theorem rows_mono {R : Nat → Addr} {Tl : Addr} {nT : Nat} {b1 b2 : List (Addr × Obj)} {c : Nat → List Value} (h : ∀ p ∈ b1, p ∈ b2) : ∀ p ∈ rowsLed R Tl nT b1 c, p ∈ rowsLed R Tl nT b2 c := fun p hp => by
  unfold rowsLed at hp ⊢
  rcases List.mem_cons.mp hp with rfl | hp
  · exact .head _
  rcases List.mem_cons.mp hp with rfl | hp
  · exact .tail _ (.head _)
  rcases List.mem_cons.mp hp with rfl | hp
  · exact .tail _ (.tail _ (.head _))
  rcases List.mem_cons.mp hp with rfl | hp
  · exact .tail _ (.tail _ (.tail _ (.head _)))
  rcases List.mem_cons.mp hp with rfl | hp
  · exact .tail _ (.tail _ (.tail _ (.tail _ (.head _))))
  rcases List.mem_cons.mp hp with rfl | hp
  · exact .tail _ (.tail _ (.tail _ (.tail _ (.tail _ (.head _)))))
  exact rows_base (h p hp)
theorem rowsBase {a b : Addr × Obj} {r : List (Addr × Obj)} {n : Nat} {ys : List Value} {nw : List (Addr × Obj)} (h : RowsJ (a :: b :: r) n ys nw) : ∃ bs, (a ∈ bs ∧ b ∈ bs ∧ ∀ p ∈ r, p ∈ bs) ∧ RowsJ bs n ys nw := ⟨a :: b :: r, ⟨.head _, .tail _ (.head _), fun _ hp => .tail _ (.tail _ hp)⟩, h⟩
abbrev ones (t : Tok) : List Value := [.int 1 t, .int 1 t, .int 1 t, .int 1 t, .int 1 t]
theorem ones_are (t : Tok) : IntsAre (ones t) [1, 1, 1, 1, 1] := .cons 1 t (.cons 1 t (.cons 1 t (.cons 1 t (.cons 1 t .nil))))
theorem rows_start {h₀ h : Heap} {L : Addr} {R : Nat → Addr} {t : Nat → Tok} {Tl : Addr} {base : List (Addr × Obj)} (N : News h₀ L h ((Tl, LCg.lst [.ref (R 0), .ref (R 1), .ref (R 2), .ref (R 3), .ref (R 4)]) :: (R 4, row1 (t 4)) :: (R 3, row1 (t 3)) :: (R 2, row1 (t 2)) :: (R 1, row1 (t 1)) :: (R 0, row1 (t 0)) :: base)) :
    News h₀ L h (rowsLed R Tl 5 base (fun i => ones (t i))) := fun p hp => by
  unfold rowsLed at hp
  rcases List.mem_cons.mp hp with rfl | hp
  · exact N _ (.head _)
  rcases List.mem_cons.mp hp with rfl | hp
  · exact N _ (.tail _ (.tail _ (.tail _ (.tail _ (.tail _ (.head _))))))
  rcases List.mem_cons.mp hp with rfl | hp
  · exact N _ (.tail _ (.tail _ (.tail _ (.tail _ (.head _)))))
  rcases List.mem_cons.mp hp with rfl | hp
  · exact N _ (.tail _ (.tail _ (.tail _ (.head _))))
  rcases List.mem_cons.mp hp with rfl | hp
  · exact N _ (.tail _ (.tail _ (.head _)))
  rcases List.mem_cons.mp hp with rfl | hp
  · exact N _ (.tail _ (.head _))
  exact N _ (.tail _ (.tail _ (.tail _ (.tail _ (.tail _ (.tail _ hp))))))
structure Lev (la lb : List Nat) : Prop where
  len : la.length = lb.length
  le : la.length ≤ 16
  off : Off la lb
  pos : 0 ≤ T0 la lb
  max : T0 la lb ≤ 8
local macro_rules | `(tactic| walk_at "FinA") => `(tactic| refine Hold.mk ?_)
local macro_rules | `(tactic| walk_at "pyIter ref") => `(tactic| refine Hold.mk ?_)
local macro_rules | `(tactic| walk_at "InvEndN") => `(tactic| refine Hold.mk ?_)
local macro_rules | `(tactic| walk_at "subscriptTail Name Name ref int") => `(tactic| (refine Hold.mk ?_))
local macro_rules | `(tactic| walk_at "call ref") => `(tactic| ((with_reducible show wpAny _ _ (call (Value.ref 207) _) _ _ _); refine Hold.mk ?_))
local macro_rules | `(tactic| walk_at "binaryOp Pow int int") => `(tactic| (refine Hold.mk ?_))
local macro_rules | `(tactic| walk_at "setItem ref int") => `(tactic| refine Hold.mk ?_)
theorem powers_use {w : World} {mean : ExcName → Option Value} {mg mb : Str → Option Value} {Tx : Addr} {rest : List (Addr × Obj)} {c : Nat} {t0 t1 t2 t3 t4 tb : Tok} {x0 x1 x2 x3 x4 : List Nat} {b : Int} {dp un : Nat} {gd : Option (List Code)} {cn : Str} {cs' : Scope} {a : Addr} {ccd : Value} {cl : List (Str × Addr)} {outer : List Env} {A₀ : Around} {base h₀ : Heap} {L : Addr} {m : Str → Option Value} {s : Shared} {Q E : Value → Shared → Prop}
   (hL : ∀ i j, j < i → i < 5 → Lev ([x0, x1, x2, x3, x4].getD i []) ([x0, x1, x2, x3, x4].getD j [])) (hb : b.natAbs ≤ 16) :
   Pre w mean mg mb cs' A₀ outer base h₀ L m ((Tx, listOf #[.str (S x0) t0, .str (S x1) t1, .str (S x2) t2, .str (S x3) t3, .str (S x4) t4] c) :: rest) s.heap dp un 30 240 ((∀ (D : Addr) (R : Nat → Addr) (rows : Nat → List Value) (n : Nat) (h' : Heap) (tk' : Nat), Fr h₀ L h' m → News h₀ L h' (rowsLed R D n ((Tx, listOf #[.str (S x0) t0, .str (S x1) t1, .str (S x2) t2, .str (S x3) t3, .str (S x4) t4] c) :: rest) rows) → (∀ i, i < 5 → IntsAre (rows i) (matRow [x0, x1, x2, x3, x4] b 5 0 i)) → Q (.ref D) { s with heap := h', toks := tk' }) →
    wpAny (model PW w) (ktrTop dp un gd cn cs' L a ccd cl outer) (call (.ref 273) [.ref Tx, .int b tb]) Q E s) := by
  intro B F X N T hk hd hu hret
  have hXs : StrsAre [.str (S x0) t0, .str (S x1) t1, .str (S x2) t2, .str (S x3) t3, .str (S x4) t4] [x0, x1, x2, x3, x4] := .cons (.cons (.cons (.cons (.cons .nil))))
  refine wpAny_call ?_
  k_with_none
  k_dflt (refine' code_defC ?k1 ?k2 ?k3 ?k4 ?k5 ?kA ?kF ?kK ?k6 ?k7 ?k8 ?k9 ?kB ?kD ?_ ?c2 ?c3 ?c4; (case kA => exact rfl); (case kF => exact rfl); (case kK => assumption); (case k1 => k_asm); (case k2 => k_asm); (case k3 => k_asm); (case k4 => k_asm); (case k5 => k_asm); (case k6 => k_is); (case k7 => k_is); (case k8 => ktr_room); (case k9 => exact BindsTo.of_eq rfl); (case kB => exact rfl); (case kD => decide +kernel); (case c2 => exact rfl); (case c3 => exact rfl); (case c4 => exact rfl); k_whole; intro g' L' h' tk' cells' FG' F' N' Y' B' X' T' l1; (try k_lt l1); k_cells Y'; (try simp only [List.cons_append, List.nil_append] at N'); (try dsimp only); (try k_lift B'); (try k_fold))
  (k_steps; repeat' (first | ((refine Hold.out ?_; first | ((with_reducible show wpAny _ _ (binaryOp Operator.Pow (Value.int _ _) (Value.int _ _)) _ _ _); (k_here; k_dflt (refine pow_int_small (by assumption) (Int.le_trans (by assumption) (by decide)) (Nat.lt_of_le_of_lt (by assumption) (by decide)) ?_))) | ((with_reducible show wpAny _ _ (call (Value.ref _) _) _ _ _); (k_here; (with_reducible show wpAny _ _ (call (Value.ref 207) _) _ _ _); k_dflt (refine' lev_use ?c1 ?c2 ?c3 ?c4 ?k1 ?k2 ?k3 ?k4 ?k5 ?kK ?kd ?ku ?_; (case c1 => refine Lev.len ?_; assumption); (case c2 => exact Lev.le (by assumption)); (case c3 => refine Lev.off ?_; assumption); (case c4 => refine Lev.max ?_; assumption); (case k1 => k_asm); (case k2 => k_asm); (case k3 => k_asm); (case k4 => k_asm); (case k5 => k_asm); (case kK => first | exact rfl | assumption); (case kd => ktr_room); (case ku => ktr_units)); intro _ _ _ _ zN'; (try dsimp only); (try k_fold))) | ((with_reducible show wpAny _ _ (subscriptTail _ _ _ _) _ _ _); (k_here; (with_reducible show wpAny _ _ (subscriptTail _ _ (Value.ref _) (Value.int _ _)) _ _ _); (with_reducible rename News _ _ _ _ => zN9); k_dflt (first | (refine told_item zN9 (by k_mem) (by omega) (by omega) ?_ (by with_unfolding_all rfl)) | (refine text_item zN9 (by k_mem) (by assumption) (by omega) (by show _ < ((5 : Nat) : Int); omega) (Nat.le_of_ble_eq_true rfl) ?_ (by with_unfolding_all rfl); intro _)))) | ((with_reducible show wpAny _ _ (binaryOp Operator.Mult (Value.ref _) (Value.int _ _)) _ _ _); (k_here; (with_reducible show wpAny _ _ (binaryOp Operator.Mult (Value.ref _) (Value.int _ _)) _ _ _); k_dflt (refine mul5 (by k_asm) (by k_asm) (by k_mem) (by rfl) ?_); intro zD' zh' zF' zN' l1; (try k_lt l1))) | ((with_reducible show wpAny _ _ (exec (Stmt.Assign _ (Expr.ListComp _ _ _ _) _) _) _ _ _); (k_here; k_dflt (refine LCg.Assign_ListComp_U (F₀ := by k_asm) (by rfl) (by with_unfolding_all rfl) (by with_unfolding_all rfl) (by decide) (by rfl) (by decide) (by rfl) (by rfl) (by rfl) ?_)))); k_steps) | (refine gp_use (by assumption) ?_; (try dsimp only); k_steps)))
  refine Hold.out ?_
  rename Fr _ _ _ _ => F9
  rename News _ _ _ _ => N9
  refine LCg.CompSrc.ledger (by rfl) F9 N9 (by k_mem) (Nat.le_of_ble_eq_true rfl) ?_
  intro g9
  refine compRest_indN (RowsJ _) .nil ?_ ?_
  · intro i ys nw v I oI C oC D m₂ h tk E' hi hJ hP hC hx' F' N' off ne
    have hm1 := hJ.mem _ (List.mem_cons_self)
    have hm2 := hJ.mem _ (List.mem_cons_of_mem _ (List.mem_cons_self))
    have N2 := News.more2 N' (List.mem_cons_of_mem _ (List.mem_cons_of_mem _ (List.mem_cons_of_mem _ hm1))) (List.mem_cons_of_mem _ (List.mem_cons_of_mem _ (List.mem_cons_of_mem _ hm2)))
    clear N'
    (k_steps; repeat' (first | ((refine Hold.out ?_; first | ((with_reducible show wpAny _ _ (binaryOp Operator.Pow (Value.int _ _) (Value.int _ _)) _ _ _); (k_here; k_dflt (refine pow_int_small (by assumption) (Int.le_trans (by assumption) (by decide)) (Nat.lt_of_le_of_lt (by assumption) (by decide)) ?_))) | ((with_reducible show wpAny _ _ (call (Value.ref _) _) _ _ _); (k_here; (with_reducible show wpAny _ _ (call (Value.ref 207) _) _ _ _); k_dflt (refine' lev_use ?c1 ?c2 ?c3 ?c4 ?k1 ?k2 ?k3 ?k4 ?k5 ?kK ?kd ?ku ?_; (case c1 => refine Lev.len ?_; assumption); (case c2 => exact Lev.le (by assumption)); (case c3 => refine Lev.off ?_; assumption); (case c4 => refine Lev.max ?_; assumption); (case k1 => k_asm); (case k2 => k_asm); (case k3 => k_asm); (case k4 => k_asm); (case k5 => k_asm); (case kK => first | exact rfl | assumption); (case kd => ktr_room); (case ku => ktr_units)); intro _ _ _ _ zN'; (try dsimp only); (try k_fold))) | ((with_reducible show wpAny _ _ (subscriptTail _ _ _ _) _ _ _); (k_here; (with_reducible show wpAny _ _ (subscriptTail _ _ (Value.ref _) (Value.int _ _)) _ _ _); (with_reducible rename News _ _ _ _ => zN9); k_dflt (first | (refine told_item zN9 (by k_mem) (by omega) (by omega) ?_ (by with_unfolding_all rfl)) | (refine text_item zN9 (by k_mem) (by assumption) (by omega) (by show _ < ((5 : Nat) : Int); omega) (Nat.le_of_ble_eq_true rfl) ?_ (by with_unfolding_all rfl); intro _)))) | ((with_reducible show wpAny _ _ (binaryOp Operator.Mult (Value.ref _) (Value.int _ _)) _ _ _); (k_here; (with_reducible show wpAny _ _ (binaryOp Operator.Mult (Value.ref _) (Value.int _ _)) _ _ _); k_dflt (refine mul5 (by k_asm) (by k_asm) (by k_mem) (by rfl) ?_); intro zD' zh' zF' zN' l1; (try k_lt l1))) | ((with_reducible show wpAny _ _ (exec (Stmt.Assign _ (Expr.ListComp _ _ _ _) _) _) _ _ _); (k_here; k_dflt (refine LCg.Assign_ListComp_U (F₀ := by k_asm) (by rfl) (by with_unfolding_all rfl) (by with_unfolding_all rfl) (by decide) (by rfl) (by decide) (by rfl) (by rfl) (by rfl) ?_)))); k_steps) | (refine gp_use (by assumption) ?_; (try dsimp only); k_steps)))
    rename News _ _ _ _ => N20
    rename _ < _ ∧ _ => hL9
    refine LCg.CompEnd.intro (by assumption) N20 ((_, row1 tk) :: nw) ?_ ?_ (.inr ⟨_, List.mem_cons_of_mem _ hm2, rfl, _, rfl⟩) (.snoc hJ (Mine.AllLt.at hL9.2.2.2.2.2.2))
    · intro p hp
      rcases List.mem_cons.mp hp with rfl | hp
      · k_mem
      rcases List.mem_cons.mp hp with rfl | hp
      · k_mem
      rcases List.mem_cons.mp hp with rfl | hp
      · k_mem
      rcases List.mem_cons.mp hp with rfl | hp
      · exact List.mem_cons_self
      · repeat' (first | exact hp | refine List.Mem.tail _ ?_)
    · exact ⟨⟨Nat.ne_of_gt hL9.2.2.2.1, Nat.ne_of_gt hL9.2.2.2.2.1, Nat.ne_of_gt hL9.2.2.2.2.2.1⟩, off⟩
  · intro ys nw hJ
    obtain ⟨bs, ⟨hmc, hmx, hmr⟩, hJ⟩ := rowsBase hJ
    obtain ⟨R, tR, rfl, rfl, hRR, hRb⟩ := RowsJ.five hJ
    clear hJ F9 N9
    unfold LCg.FinA
    intro Dl h9 tk9 F9 N9 o9
    have hTl : ∀ i, i < 5 → Dl ≠ R i := fun i hi => by
      rcases i with _ | _ | _ | _ | _ | i
      · exact fun e => o9.2.2.2.2.1 e.symm
      · exact fun e => o9.2.2.2.1 e.symm
      · exact fun e => o9.2.2.1 e.symm
      · exact fun e => o9.2.1 e.symm
      · exact fun e => o9.1 e.symm
      · omega
    have ap : Apart R Dl bs := ⟨hRR, hTl, fun i hi p hp => Nat.ne_of_lt (hRb i hi p hp)⟩
    (try simp only [List.nil_append, List.cons_append] at N9)
    dsimp only
    have N8 := rows_start N9
    clear N9
    have N9 := News.more2 N8 (rows_base hmc) (rows_base hmx)
    simp only [rowsLed] at N9
    clear N8
    (k_steps; repeat' (first | ((refine Hold.out ?_; first | ((with_reducible show wpAny _ _ (binaryOp Operator.Pow (Value.int _ _) (Value.int _ _)) _ _ _); (k_here; k_dflt (refine pow_int_small (by assumption) (Int.le_trans (by assumption) (by decide)) (Nat.lt_of_le_of_lt (by assumption) (by decide)) ?_))) | ((with_reducible show wpAny _ _ (call (Value.ref _) _) _ _ _); (k_here; (with_reducible show wpAny _ _ (call (Value.ref 207) _) _ _ _); k_dflt (refine' lev_use ?c1 ?c2 ?c3 ?c4 ?k1 ?k2 ?k3 ?k4 ?k5 ?kK ?kd ?ku ?_; (case c1 => refine Lev.len ?_; assumption); (case c2 => exact Lev.le (by assumption)); (case c3 => refine Lev.off ?_; assumption); (case c4 => refine Lev.max ?_; assumption); (case k1 => k_asm); (case k2 => k_asm); (case k3 => k_asm); (case k4 => k_asm); (case k5 => k_asm); (case kK => first | exact rfl | assumption); (case kd => ktr_room); (case ku => ktr_units)); intro _ _ _ _ zN'; (try dsimp only); (try k_fold))) | ((with_reducible show wpAny _ _ (subscriptTail _ _ _ _) _ _ _); (k_here; (with_reducible show wpAny _ _ (subscriptTail _ _ (Value.ref _) (Value.int _ _)) _ _ _); (with_reducible rename News _ _ _ _ => zN9); k_dflt (first | (refine told_item zN9 (by k_mem) (by omega) (by omega) ?_ (by with_unfolding_all rfl)) | (refine text_item zN9 (by k_mem) (by assumption) (by omega) (by show _ < ((5 : Nat) : Int); omega) (Nat.le_of_ble_eq_true rfl) ?_ (by with_unfolding_all rfl); intro _)))) | ((with_reducible show wpAny _ _ (binaryOp Operator.Mult (Value.ref _) (Value.int _ _)) _ _ _); (k_here; (with_reducible show wpAny _ _ (binaryOp Operator.Mult (Value.ref _) (Value.int _ _)) _ _ _); k_dflt (refine mul5 (by k_asm) (by k_asm) (by k_mem) (by rfl) ?_); intro zD' zh' zF' zN' l1; (try k_lt l1))) | ((with_reducible show wpAny _ _ (exec (Stmt.Assign _ (Expr.ListComp _ _ _ _) _) _) _ _ _); (k_here; k_dflt (refine LCg.Assign_ListComp_U (F₀ := by k_asm) (by rfl) (by with_unfolding_all rfl) (by with_unfolding_all rfl) (by decide) (by rfl) (by decide) (by rfl) (by rfl) (by rfl) ?_)))); k_steps) | (refine gp_use (by assumption) ?_; (try dsimp only); k_steps)))
    refine Hold.out ?_
    rename Fr _ _ _ _ => F10
    rename News _ _ _ _ => N10
    rename IsRange _ _ _ _ _ _ _ _ => rg
    refine kst_range (σ := Nat → List Value) (rowsLed R Dl 5 bs) (fun _ => []) (fun _ => True) ["soon", "power"] (fun pre c => ∀ i, i < 5 → IntsAre (c i) (matRow [x0, x1, x2, x3, x4] b pre.length 0 i)) (fun i => ones (tR i)) (by rfl) rg (by decide) (rangeSize_nat _ _) F10 (News.drop2 N10) trivial (fun _ hp => nomatch hp) (fun i _ => by rw [List.length_nil, matRow_zero]; exact ones_are _) ?_ ?_
    · intro c pre k t u h tk own hk hlt hoff _ hP F12 N12
      have N13 := News.more2 N12 (List.mem_append_left _ (rows_base hmc)) (List.mem_append_left _ (rows_base hmx))
      simp only [rowsLed, List.cons_append] at N13
      clear N12 F10 N10 rg
      have hk2 : k = (pre.length : Int) := by omega
      subst hk2
      clear hk
      have hlt' : pre.length < 5 := hlt
      generalize hlate : pre.length = late at *
      (k_steps; repeat' (first | ((refine Hold.out ?_; first | ((with_reducible show wpAny _ _ (binaryOp Operator.Pow (Value.int _ _) (Value.int _ _)) _ _ _); (k_here; k_dflt (refine pow_int_small (by assumption) (Int.le_trans (by assumption) (by decide)) (Nat.lt_of_le_of_lt (by assumption) (by decide)) ?_))) | ((with_reducible show wpAny _ _ (call (Value.ref _) _) _ _ _); (k_here; (with_reducible show wpAny _ _ (call (Value.ref 207) _) _ _ _); k_dflt (refine' lev_use ?c1 ?c2 ?c3 ?c4 ?k1 ?k2 ?k3 ?k4 ?k5 ?kK ?kd ?ku ?_; (case c1 => refine Lev.len ?_; assumption); (case c2 => exact Lev.le (by assumption)); (case c3 => refine Lev.off ?_; assumption); (case c4 => refine Lev.max ?_; assumption); (case k1 => k_asm); (case k2 => k_asm); (case k3 => k_asm); (case k4 => k_asm); (case k5 => k_asm); (case kK => first | exact rfl | assumption); (case kd => ktr_room); (case ku => ktr_units)); intro _ _ _ _ zN'; (try dsimp only); (try k_fold))) | ((with_reducible show wpAny _ _ (subscriptTail _ _ _ _) _ _ _); (k_here; (with_reducible show wpAny _ _ (subscriptTail _ _ (Value.ref _) (Value.int _ _)) _ _ _); (with_reducible rename News _ _ _ _ => zN9); k_dflt (first | (refine told_item zN9 (by k_mem) (by omega) (by omega) ?_ (by with_unfolding_all rfl)) | (refine text_item zN9 (by k_mem) (by assumption) (by omega) (by show _ < ((5 : Nat) : Int); omega) (Nat.le_of_ble_eq_true rfl) ?_ (by with_unfolding_all rfl); intro _)))) | ((with_reducible show wpAny _ _ (binaryOp Operator.Mult (Value.ref _) (Value.int _ _)) _ _ _); (k_here; (with_reducible show wpAny _ _ (binaryOp Operator.Mult (Value.ref _) (Value.int _ _)) _ _ _); k_dflt (refine mul5 (by k_asm) (by k_asm) (by k_mem) (by rfl) ?_); intro zD' zh' zF' zN' l1; (try k_lt l1))) | ((with_reducible show wpAny _ _ (exec (Stmt.Assign _ (Expr.ListComp _ _ _ _) _) _) _ _ _); (k_here; k_dflt (refine LCg.Assign_ListComp_U (F₀ := by k_asm) (by rfl) (by with_unfolding_all rfl) (by with_unfolding_all rfl) (by decide) (by rfl) (by decide) (by rfl) (by rfl) (by rfl) ?_)))); k_steps) | (refine gp_use (by assumption) ?_; (try dsimp only); k_steps)))
      refine Hold.out ?_
      rename Fr _ _ _ _ => F10
      rename News _ _ _ _ => N10
      rename IsRange _ _ _ _ _ _ _ _ => rg
      refine kst_range (σ := Nat → List Value) (fun c => rowsLed R Dl 5 bs c ++ own) (fun _ => []) (fun _ => True) ["power"] (fun pre c => ∀ i, i < 5 → IntsAre (c i) (matRow [x0, x1, x2, x3, x4] b late pre.length i)) c (by rfl) rg (small_one (by omega) (by omega) (by omega) (by omega)) (rangeSize_nat _ _) F10 (News.drop2 N10) trivial (fun _ hp => nomatch hp) hP ?_ ?_
      · clear rg F10 N10 hP
        intro c2 pre2 k2 t2 u2 h2 tk2 own2 hk2 hlt2 hoff2 _ hP2 F14 N14
        have hk3 : k2 = (pre2.length : Int) := by omega
        subst hk3
        clear hk2
        have hlt3 : pre2.length < late := by omega
        generalize hsoon : pre2.length = soon at *
        have hlv := hL late soon hlt3 hlt'
        have hq0 := hlv.pos
        have hq1 := hlv.max
        have N15 := News.more2 N14 (List.mem_append_left _ (List.mem_append_left _ (rows_base hmc))) (List.mem_append_left _ (List.mem_append_left _ (rows_base hmx)))
        simp only [rowsLed, List.cons_append] at N15
        clear N14
        (k_steps; repeat' (first | ((refine Hold.out ?_; first | ((with_reducible show wpAny _ _ (binaryOp Operator.Pow (Value.int _ _) (Value.int _ _)) _ _ _); (k_here; k_dflt (refine pow_int_small (by assumption) (Int.le_trans (by assumption) (by decide)) (Nat.lt_of_le_of_lt (by assumption) (by decide)) ?_))) | ((with_reducible show wpAny _ _ (call (Value.ref _) _) _ _ _); (k_here; (with_reducible show wpAny _ _ (call (Value.ref 207) _) _ _ _); k_dflt (refine' lev_use ?c1 ?c2 ?c3 ?c4 ?k1 ?k2 ?k3 ?k4 ?k5 ?kK ?kd ?ku ?_; (case c1 => refine Lev.len ?_; assumption); (case c2 => exact Lev.le (by assumption)); (case c3 => refine Lev.off ?_; assumption); (case c4 => refine Lev.max ?_; assumption); (case k1 => k_asm); (case k2 => k_asm); (case k3 => k_asm); (case k4 => k_asm); (case k5 => k_asm); (case kK => first | exact rfl | assumption); (case kd => ktr_room); (case ku => ktr_units)); intro _ _ _ _ zN'; (try dsimp only); (try k_fold))) | ((with_reducible show wpAny _ _ (subscriptTail _ _ _ _) _ _ _); (k_here; (with_reducible show wpAny _ _ (subscriptTail _ _ (Value.ref _) (Value.int _ _)) _ _ _); (with_reducible rename News _ _ _ _ => zN9); k_dflt (first | (refine told_item zN9 (by k_mem) (by omega) (by omega) ?_ (by with_unfolding_all rfl)) | (refine text_item zN9 (by k_mem) (by assumption) (by omega) (by show _ < ((5 : Nat) : Int); omega) (Nat.le_of_ble_eq_true rfl) ?_ (by with_unfolding_all rfl); intro _)))) | ((with_reducible show wpAny _ _ (binaryOp Operator.Mult (Value.ref _) (Value.int _ _)) _ _ _); (k_here; (with_reducible show wpAny _ _ (binaryOp Operator.Mult (Value.ref _) (Value.int _ _)) _ _ _); k_dflt (refine mul5 (by k_asm) (by k_asm) (by k_mem) (by rfl) ?_); intro zD' zh' zF' zN' l1; (try k_lt l1))) | ((with_reducible show wpAny _ _ (exec (Stmt.Assign _ (Expr.ListComp _ _ _ _) _) _) _ _ _); (k_here; k_dflt (refine LCg.Assign_ListComp_U (F₀ := by k_asm) (by rfl) (by with_unfolding_all rfl) (by with_unfolding_all rfl) (by decide) (by rfl) (by decide) (by rfl) (by rfl) (by rfl) ?_)))); k_steps) | (refine gp_use (by assumption) ?_; (try dsimp only); k_steps)))
        have ho1 := off_rows (more := []) (by rw [List.append_nil]; exact hoff)
        have ho2 := off_rows hoff2
        have ho : ∀ p ∈ own ++ own2, ∀ i, i < 5 → p.1 ≠ R i := fun p hp => (List.mem_append.mp hp).elim (ho1 p) (ho2 p)
        refine Hold.out ?_
        rename Fr _ _ _ _ => F20
        rename News _ _ _ _ => N20
        refine set_row (i := late) (c := c2) (own := own ++ own2) (base := bs) (nT := 5) (Tl := Dl) ap F20 (by simpa only [rowsLed, List.cons_append, List.append_assoc] using News.drop2 N20) ho hlt' (hP2 late hlt') (by omega) (by rw [matRow_len]; omega) (matRow_len _ _ _ _ _) ?_
        intro h21 us F21 N21 hI21
        clear F20 N20 F14
        have N22 := News.more2 N21 (List.mem_append_left _ (rows_base hmc)) (List.mem_append_left _ (rows_base hmx))
        simp only [rowsLed, List.cons_append] at N22
        clear N21
        (k_steps; repeat' (first | ((refine Hold.out ?_; first | ((with_reducible show wpAny _ _ (binaryOp Operator.Pow (Value.int _ _) (Value.int _ _)) _ _ _); (k_here; k_dflt (refine pow_int_small (by assumption) (Int.le_trans (by assumption) (by decide)) (Nat.lt_of_le_of_lt (by assumption) (by decide)) ?_))) | ((with_reducible show wpAny _ _ (call (Value.ref _) _) _ _ _); (k_here; (with_reducible show wpAny _ _ (call (Value.ref 207) _) _ _ _); k_dflt (refine' lev_use ?c1 ?c2 ?c3 ?c4 ?k1 ?k2 ?k3 ?k4 ?k5 ?kK ?kd ?ku ?_; (case c1 => refine Lev.len ?_; assumption); (case c2 => exact Lev.le (by assumption)); (case c3 => refine Lev.off ?_; assumption); (case c4 => refine Lev.max ?_; assumption); (case k1 => k_asm); (case k2 => k_asm); (case k3 => k_asm); (case k4 => k_asm); (case k5 => k_asm); (case kK => first | exact rfl | assumption); (case kd => ktr_room); (case ku => ktr_units)); intro _ _ _ _ zN'; (try dsimp only); (try k_fold))) | ((with_reducible show wpAny _ _ (subscriptTail _ _ _ _) _ _ _); (k_here; (with_reducible show wpAny _ _ (subscriptTail _ _ (Value.ref _) (Value.int _ _)) _ _ _); (with_reducible rename News _ _ _ _ => zN9); k_dflt (first | (refine told_item zN9 (by k_mem) (by omega) (by omega) ?_ (by with_unfolding_all rfl)) | (refine text_item zN9 (by k_mem) (by assumption) (by omega) (by show _ < ((5 : Nat) : Int); omega) (Nat.le_of_ble_eq_true rfl) ?_ (by with_unfolding_all rfl); intro _)))) | ((with_reducible show wpAny _ _ (binaryOp Operator.Mult (Value.ref _) (Value.int _ _)) _ _ _); (k_here; (with_reducible show wpAny _ _ (binaryOp Operator.Mult (Value.ref _) (Value.int _ _)) _ _ _); k_dflt (refine mul5 (by k_asm) (by k_asm) (by k_mem) (by rfl) ?_); intro zD' zh' zF' zN' l1; (try k_lt l1))) | ((with_reducible show wpAny _ _ (exec (Stmt.Assign _ (Expr.ListComp _ _ _ _) _) _) _ _ _); (k_here; k_dflt (refine LCg.Assign_ListComp_U (F₀ := by k_asm) (by rfl) (by with_unfolding_all rfl) (by with_unfolding_all rfl) (by decide) (by rfl) (by decide) (by rfl) (by rfl) (by rfl) ?_)))); k_steps) | (refine gp_use (by assumption) ?_; (try dsimp only); k_steps)))
        refine Hold.out ?_
        rename Fr _ _ _ _ => F20
        rename News _ _ _ _ => N20
        refine set_row (i := soon) (c := put c2 late us) (own := own ++ own2) (base := bs) (nT := 5) (Tl := Dl) ap F20 (by simpa only [rowsLed, List.cons_append, List.append_assoc] using News.drop2 N20) ho (by omega) (by rw [put_ne (by omega)]; exact hP2 soon (by omega)) (by omega) (by rw [matRow_len]; omega) (matRow_len _ _ _ _ _) ?_
        intro h23 us2 F23 N23 hI23
        clear F20 N20
        (k_steps; repeat' (first | ((refine Hold.out ?_; first | ((with_reducible show wpAny _ _ (binaryOp Operator.Pow (Value.int _ _) (Value.int _ _)) _ _ _); (k_here; k_dflt (refine pow_int_small (by assumption) (Int.le_trans (by assumption) (by decide)) (Nat.lt_of_le_of_lt (by assumption) (by decide)) ?_))) | ((with_reducible show wpAny _ _ (call (Value.ref _) _) _ _ _); (k_here; (with_reducible show wpAny _ _ (call (Value.ref 207) _) _ _ _); k_dflt (refine' lev_use ?c1 ?c2 ?c3 ?c4 ?k1 ?k2 ?k3 ?k4 ?k5 ?kK ?kd ?ku ?_; (case c1 => refine Lev.len ?_; assumption); (case c2 => exact Lev.le (by assumption)); (case c3 => refine Lev.off ?_; assumption); (case c4 => refine Lev.max ?_; assumption); (case k1 => k_asm); (case k2 => k_asm); (case k3 => k_asm); (case k4 => k_asm); (case k5 => k_asm); (case kK => first | exact rfl | assumption); (case kd => ktr_room); (case ku => ktr_units)); intro _ _ _ _ zN'; (try dsimp only); (try k_fold))) | ((with_reducible show wpAny _ _ (subscriptTail _ _ _ _) _ _ _); (k_here; (with_reducible show wpAny _ _ (subscriptTail _ _ (Value.ref _) (Value.int _ _)) _ _ _); (with_reducible rename News _ _ _ _ => zN9); k_dflt (first | (refine told_item zN9 (by k_mem) (by omega) (by omega) ?_ (by with_unfolding_all rfl)) | (refine text_item zN9 (by k_mem) (by assumption) (by omega) (by show _ < ((5 : Nat) : Int); omega) (Nat.le_of_ble_eq_true rfl) ?_ (by with_unfolding_all rfl); intro _)))) | ((with_reducible show wpAny _ _ (binaryOp Operator.Mult (Value.ref _) (Value.int _ _)) _ _ _); (k_here; (with_reducible show wpAny _ _ (binaryOp Operator.Mult (Value.ref _) (Value.int _ _)) _ _ _); k_dflt (refine mul5 (by k_asm) (by k_asm) (by k_mem) (by rfl) ?_); intro zD' zh' zF' zN' l1; (try k_lt l1))) | ((with_reducible show wpAny _ _ (exec (Stmt.Assign _ (Expr.ListComp _ _ _ _) _) _) _ _ _); (k_here; k_dflt (refine LCg.Assign_ListComp_U (F₀ := by k_asm) (by rfl) (by with_unfolding_all rfl) (by with_unfolding_all rfl) (by decide) (by rfl) (by decide) (by rfl) (by rfl) (by rfl) ?_)))); k_steps) | (refine gp_use (by assumption) ?_; (try dsimp only); k_steps)))
        refine Hold.out ?_
        rename Fr _ _ _ _ => F20
        rename News _ _ _ _ => N20
        refine kst_end (put (put c2 late us) soon us2) F20 N20 ?_ ?_ (by rfl) trivial (fun _ hp => nomatch hp) (by
          intro z g1 _ g3
          have g4 := g3
          simp only [List.contains_cons, List.contains_nil, Bool.or_false, Bool.or_eq_false_iff, beq_eq_false_iff_ne, ne_eq] at g4
          simp [g1, g4, kstB]) ?_
        · intro p hp
          rw [← List.append_assoc]
          exact List.mem_append_left _ hp
        · intro p hp
          exact List.mem_append_right _ (List.mem_append_right _ hp)
        · intro i hi
          rw [show (pre2 ++ [(soon : Int)]).length = soon + 1 by simp [hsoon]]
          by_cases e1 : i = soon
          · subst e1
            rw [put_same, ← matRow_soon hlt3 hlt']
            exact hI23
          by_cases e2 : i = late
          · subst e2
            rw [put_ne e1, put_same, ← matRow_late hlt3 hlt']
            exact hI21
          rw [put_ne e1, put_ne e2, ← matRow_other hlt3 e2 e1]
          exact hP2 i hi
      · intro c3 u3 h3 tk3 _ hP3 F14 N14
        dsimp only
        (k_steps; repeat' (first | ((refine Hold.out ?_; first | ((with_reducible show wpAny _ _ (binaryOp Operator.Pow (Value.int _ _) (Value.int _ _)) _ _ _); (k_here; k_dflt (refine pow_int_small (by assumption) (Int.le_trans (by assumption) (by decide)) (Nat.lt_of_le_of_lt (by assumption) (by decide)) ?_))) | ((with_reducible show wpAny _ _ (call (Value.ref _) _) _ _ _); (k_here; (with_reducible show wpAny _ _ (call (Value.ref 207) _) _ _ _); k_dflt (refine' lev_use ?c1 ?c2 ?c3 ?c4 ?k1 ?k2 ?k3 ?k4 ?k5 ?kK ?kd ?ku ?_; (case c1 => refine Lev.len ?_; assumption); (case c2 => exact Lev.le (by assumption)); (case c3 => refine Lev.off ?_; assumption); (case c4 => refine Lev.max ?_; assumption); (case k1 => k_asm); (case k2 => k_asm); (case k3 => k_asm); (case k4 => k_asm); (case k5 => k_asm); (case kK => first | exact rfl | assumption); (case kd => ktr_room); (case ku => ktr_units)); intro _ _ _ _ zN'; (try dsimp only); (try k_fold))) | ((with_reducible show wpAny _ _ (subscriptTail _ _ _ _) _ _ _); (k_here; (with_reducible show wpAny _ _ (subscriptTail _ _ (Value.ref _) (Value.int _ _)) _ _ _); (with_reducible rename News _ _ _ _ => zN9); k_dflt (first | (refine told_item zN9 (by k_mem) (by omega) (by omega) ?_ (by with_unfolding_all rfl)) | (refine text_item zN9 (by k_mem) (by assumption) (by omega) (by show _ < ((5 : Nat) : Int); omega) (Nat.le_of_ble_eq_true rfl) ?_ (by with_unfolding_all rfl); intro _)))) | ((with_reducible show wpAny _ _ (binaryOp Operator.Mult (Value.ref _) (Value.int _ _)) _ _ _); (k_here; (with_reducible show wpAny _ _ (binaryOp Operator.Mult (Value.ref _) (Value.int _ _)) _ _ _); k_dflt (refine mul5 (by k_asm) (by k_asm) (by k_mem) (by rfl) ?_); intro zD' zh' zF' zN' l1; (try k_lt l1))) | ((with_reducible show wpAny _ _ (exec (Stmt.Assign _ (Expr.ListComp _ _ _ _) _) _) _ _ _); (k_here; k_dflt (refine LCg.Assign_ListComp_U (F₀ := by k_asm) (by rfl) (by with_unfolding_all rfl) (by with_unfolding_all rfl) (by decide) (by rfl) (by decide) (by rfl) (by rfl) (by rfl) ?_)))); k_steps) | (refine gp_use (by assumption) ?_; (try dsimp only); k_steps)))
        refine Hold.out ?_
        refine kst_end c3 F14 N14 (fun p hp => List.mem_append_left _ hp) (fun p hp => List.mem_append_right _ hp) (by rfl) trivial (fun _ hp => nomatch hp) (by
          intro z g1 _ g3
          have g4 := g3
          simp only [List.contains_cons, List.contains_nil, Bool.or_false, Bool.or_eq_false_iff, beq_eq_false_iff_ne, ne_eq] at g4
          simp [g1, g4, kstB]) ?_
        intro i hi
        have := hP3 i hi
        rw [rangeKs_length] at this
        rw [show (pre ++ [(late : Int)]).length = late + 1 by simp [hlate], ← matRow_next]
        rw [show ((late : Int) - 0).toNat = late by omega] at this
        exact this
    · intro c u h tk _ hP F12 N12
      clear F10 N10 rg
      simp only [rowsLed] at N12
      (k_steps; repeat' (first | ((refine Hold.out ?_; first | ((with_reducible show wpAny _ _ (binaryOp Operator.Pow (Value.int _ _) (Value.int _ _)) _ _ _); (k_here; k_dflt (refine pow_int_small (by assumption) (Int.le_trans (by assumption) (by decide)) (Nat.lt_of_le_of_lt (by assumption) (by decide)) ?_))) | ((with_reducible show wpAny _ _ (call (Value.ref _) _) _ _ _); (k_here; (with_reducible show wpAny _ _ (call (Value.ref 207) _) _ _ _); k_dflt (refine' lev_use ?c1 ?c2 ?c3 ?c4 ?k1 ?k2 ?k3 ?k4 ?k5 ?kK ?kd ?ku ?_; (case c1 => refine Lev.len ?_; assumption); (case c2 => exact Lev.le (by assumption)); (case c3 => refine Lev.off ?_; assumption); (case c4 => refine Lev.max ?_; assumption); (case k1 => k_asm); (case k2 => k_asm); (case k3 => k_asm); (case k4 => k_asm); (case k5 => k_asm); (case kK => first | exact rfl | assumption); (case kd => ktr_room); (case ku => ktr_units)); intro _ _ _ _ zN'; (try dsimp only); (try k_fold))) | ((with_reducible show wpAny _ _ (subscriptTail _ _ _ _) _ _ _); (k_here; (with_reducible show wpAny _ _ (subscriptTail _ _ (Value.ref _) (Value.int _ _)) _ _ _); (with_reducible rename News _ _ _ _ => zN9); k_dflt (first | (refine told_item zN9 (by k_mem) (by omega) (by omega) ?_ (by with_unfolding_all rfl)) | (refine text_item zN9 (by k_mem) (by assumption) (by omega) (by show _ < ((5 : Nat) : Int); omega) (Nat.le_of_ble_eq_true rfl) ?_ (by with_unfolding_all rfl); intro _)))) | ((with_reducible show wpAny _ _ (binaryOp Operator.Mult (Value.ref _) (Value.int _ _)) _ _ _); (k_here; (with_reducible show wpAny _ _ (binaryOp Operator.Mult (Value.ref _) (Value.int _ _)) _ _ _); k_dflt (refine mul5 (by k_asm) (by k_asm) (by k_mem) (by rfl) ?_); intro zD' zh' zF' zN' l1; (try k_lt l1))) | ((with_reducible show wpAny _ _ (exec (Stmt.Assign _ (Expr.ListComp _ _ _ _) _) _) _ _ _); (k_here; k_dflt (refine LCg.Assign_ListComp_U (F₀ := by k_asm) (by rfl) (by with_unfolding_all rfl) (by with_unfolding_all rfl) (by decide) (by rfl) (by decide) (by rfl) (by rfl) (by rfl) ?_)))); k_steps) | (refine gp_use (by assumption) ?_; (try dsimp only); k_steps)))
      rename News h₀ _ _ _ => N20
      refine hret Dl R c 5 _ _ (by k_asm) (fun p hp => N20 p ?_) (fun i hi => ?_)
      · refine rows_mono (b2 := bs) (fun p hp => ?_) p hp
        rcases List.mem_cons.mp hp with rfl | hp
        · exact hmx
        · exact hmr p hp
      · have := hP i hi
        rw [rangeKs_length] at this
        exact this
end
-- S2 (2)
section
open PySem PySem.W PyProof.Rows
local macro_rules | `(tactic| walk_at "KatGo") => `(tactic| (refine kat_go (fun hk' => ?_) (fun hk' => ?_); (· (exfalso; simp only [beq_iff_eq] at hk'; omega)); (try clear hk')))
local macro_rules | `(tactic| walk_at "KasNext") => `(tactic| first | (refine kas_split (fun hk' => ?_) (fun hk' => ?_); (· (exfalso; simp only [decide_eq_true_eq, decide_eq_false_iff_not, Int.not_lt] at hk'; omega)); (try clear hk')) | (refine kas_split (fun hk' => ?_) (fun hk' => ?_); rotate_left; (· (exfalso; simp only [decide_eq_true_eq, decide_eq_false_iff_not, Int.not_lt] at hk'; omega)); (try clear hk')))
abbrev tupI (j v : Int) (t u : Tok) : Obj := { cls := .type "tuple", data := .seq #[.int j t, .int v u] }
section
open PySem.Builtin PySem.Builtin.List
variable {prog : Program} {w : World} {A : Around} {E : Value → Shared → Prop} {s : Shared}
theorem list_sort_one {a : Addr} {v : Value} {n : Nat} {P : PySem.Fin → Shared → Prop} (ho : s.heap.get? a = some (seqObj "list" #[v] n))
    (h : P (.done (.ret .none)) { s with heap := sortedHeap s.heap a [v] #[v] }) : wpAny (model prog w) A (Builtin.«list.sort» ⟨[.ref a], []⟩) P E s := by
  rw [list_sort_plain]
  have ha : a < s.heap.objs.size := Heap.lt_size ho
  refine wpAny_bind (listItems_at ho rfl ?_)
  refine wpAny_bind (listUpdate_at ho rfl ?_)
  obtain ⟨e1, ho1⟩ : ∃ e1, (s.heap.update a (Obj.mapSeq fun _ => #[])).get? a = some (seqObj "list" #[] e1) := ⟨_, get?_update_seq ho (fun _ => #[])⟩
  refine wpAny_bind (seqEpoch_at ho1 rfl ?_)
  refine wpAny_bind (wpAny_newTuple ?_)
  refine wpAny_bind (wpAny_newList ?_)
  refine wpAny_holding ?_
  have ho6 : (((s.heap.update a (Obj.mapSeq fun _ => #[])).push (seqObj "tuple" #[v] 0)).push (seqObj "list" #[] 0)).get? a = some (seqObj "list" #[] e1) := by
    rw [Heap.get?_push_ne _ _ _ (by rw [size_push', Heap.size_update]; exact Nat.ne_of_lt (Nat.lt_succ_of_lt ha)), Heap.get?_push_ne _ _ _ (by rw [Heap.size_update]; exact Nat.ne_of_lt ha)]
    exact ho1
  show wpAny (model prog w) A _ P E { s with heap := ((s.heap.update a (Obj.mapSeq fun _ => #[])).push (seqObj "tuple" #[v] 0)).push (seqObj "list" #[] 0) }
  dsimp only
  have h2 : (#[v] : Array Value).size < 2 := by simp
  rw [if_pos h2, if_pos h2]
  refine wpAny_bind (wpAny_pure ?_)
  rw [StateT.run_pure]
  refine wpAny_bind (wpAny_pure ?_)
  dsimp only
  refine wpAny_bind (seqEpoch_at ho6 rfl ?_)
  have e : (arrOf (SortSt.mk' general' ((#[v] : Array Value).zip #[v]) #[] 7 none)).map (·.2) = #[v] := by with_unfolding_all rfl
  refine wpAny_bind (listUpdate_at ho6 rfl ?_ (hsz2 := by rw [e, sizeLine_eq]; exact Nat.le_of_ble_eq_true rfl))
  rw [e]
  simp only [bne_self_eq_false, Bool.false_eq_true, if_false]
  exact wpAny_pure h
theorem sorted1 {h₀ : Heap} {L l : Addr} {m : Str → Option Value} {news : List (Addr × Obj)} {v : Value} {Q : Value → Shared → Prop} (F : Fr h₀ L s.heap m) (N : News h₀ L s.heap news) (hl : s.heap.IsList l (List.toArray [v]))
    (h : ∀ D e h', Fr h₀ L h' m → News h₀ L h' ((D, listOf (List.toArray [v]) e) :: news) → Q (.ref D) { s with heap := h' }) :
    wpAny (model prog w) A (call (.builtin "sorted") [.ref l]) Q E s := by
  refine Calls.call_function_entry kind_sorted plain_sorted entry_sorted (args_sorted1 _) ?_
  unfold Builtin.«sorted»
  refine wpAny_bind (m := checkCount "sorted" 1 1 _) (wpAny_pure ?_)
  refine wpAny_bind (collect_list hl ?_)
  refine wpAny_bind (wpAny_newList ?_)
  have hsz : ((s.heap.push (seqObj "list" #[] 0)).update s.heap.objs.size (Obj.mapSeq (· ++ (List.toArray [v])))).objs.size = s.heap.objs.size + 1 := by
    rw [Heap.size_update, size_push']
  have hoL : (((s.heap.push (seqObj "list" #[] 0)).update s.heap.objs.size (Obj.mapSeq (· ++ (List.toArray [v])))).push (seqObj "list" (List.toArray [v]) 0)).get? (s.heap.objs.size + 1) = some (seqObj "list" (List.toArray [v]) 0) := by
    rw [← hsz]; exact Heap.get?_push_size _ rfl
  show wpAny _ _ _ _ _ { s with heap := ((s.heap.push (seqObj "list" #[] 0)).update s.heap.objs.size (Obj.mapSeq (· ++ (List.toArray [v])))).push (seqObj "list" (List.toArray [v]) 0) }
  rw [hsz]
  obtain ⟨e, he⟩ := sortedAll_at s.heap [v] #[v]
  refine wpAny_bind (wpAny_holding (wpAny_call_entry slot_list_sort ⟨_, hoL, rfl⟩ entry_list_sort (list_sort_one hoL ⟨_, rfl, ?_⟩) (args_list_sort _)))
  exact wpAny_pure ⟨_, rfl, h _ e _ (F.kept fun _ _ => sortedAll_old) (N.kept_cons F (fun _ _ => sortedAll_old) (Nat.le_succ _) he)⟩
end
theorem News.skip {h₀ h : Heap} {L : Addr} {a b : Addr × Obj} {r : List (Addr × Obj)} (N : News h₀ L h (a :: b :: r)) : News h₀ L h (a :: r) := fun p hp => by
  rcases List.mem_cons.mp hp with rfl | hp
  · exact N _ (.head _)
  · exact N _ (.tail _ (.tail _ hp))
theorem sorted2 {w : World} {A : Around} {E : Value → Shared → Prop} {s : Shared} {h₀ : Heap} {L l T1 T2 : Addr} {m : Str → Option Value} {news : List (Addr × Obj)} {j1 v1 j2 v2 : Int} {t1 u1 t2 u2 : Tok} {Q : Value → Shared → Prop} (X : (hd.heap_1 w.params).In h₀) (F : Fr h₀ L s.heap m) (N0 : News h₀ L s.heap news) (hl : s.heap.IsList l (List.toArray [.ref T1, .ref T2])) (m1 : (T1, tupI j1 v1 t1 u1) ∈ news) (m2 : (T2, tupI j2 v2 t2 u2) ∈ news) (h1 : j1 < j2)
    (h : ∀ D e h', Fr h₀ L h' m → News h₀ L h' ((D, listOf (List.toArray [.ref T1, .ref T2]) e) :: news) → Q (.ref D) { s with heap := h' }) :
    wpAny (model PW w) A (call (.builtin "sorted") [.ref l]) Q E s := by
  have N : News h₀ L s.heap ((T1, tupI j1 v1 t1 u1) :: (T2, tupI j2 v2 t2 u2) :: news) := fun p hp => by
    rcases List.mem_cons.mp hp with rfl | hp
    · exact N0 _ m1
    rcases List.mem_cons.mp hp with rfl | hp
    · exact N0 _ m2
    exact N0 _ hp
  clear N0
  k_with_none
  refine kat_sorted F N (vs := [.ref T1, .ref T2]) hl (Nat.le_of_ble_eq_true rfl) (Nat.le_of_ble_eq_true rfl) ?_
  intro D' e' h' F' N' l1
  (try k_lt l1)
  kat_kinds
  k_steps
  rename News _ _ _ _ => N20
  exact h _ _ _ (by k_asm) (News.skip (News.skip (N20)))
theorem sorted3 {w : World} {A : Around} {E : Value → Shared → Prop} {s : Shared} {h₀ : Heap} {L l T1 T2 T3 : Addr} {m : Str → Option Value} {news : List (Addr × Obj)} {j1 v1 j2 v2 j3 v3 : Int} {t1 u1 t2 u2 t3 u3 : Tok} {Q : Value → Shared → Prop} (X : (hd.heap_1 w.params).In h₀) (F : Fr h₀ L s.heap m) (N0 : News h₀ L s.heap news) (hl : s.heap.IsList l (List.toArray [.ref T1, .ref T2, .ref T3])) (m1 : (T1, tupI j1 v1 t1 u1) ∈ news) (m2 : (T2, tupI j2 v2 t2 u2) ∈ news) (m3 : (T3, tupI j3 v3 t3 u3) ∈ news) (h1 : j1 < j2) (h2 : j2 < j3)
    (h : ∀ D e h', Fr h₀ L h' m → News h₀ L h' ((D, listOf (List.toArray [.ref T1, .ref T2, .ref T3]) e) :: news) → Q (.ref D) { s with heap := h' }) :
    wpAny (model PW w) A (call (.builtin "sorted") [.ref l]) Q E s := by
  have N : News h₀ L s.heap ((T1, tupI j1 v1 t1 u1) :: (T2, tupI j2 v2 t2 u2) :: (T3, tupI j3 v3 t3 u3) :: news) := fun p hp => by
    rcases List.mem_cons.mp hp with rfl | hp
    · exact N0 _ m1
    rcases List.mem_cons.mp hp with rfl | hp
    · exact N0 _ m2
    rcases List.mem_cons.mp hp with rfl | hp
    · exact N0 _ m3
    exact N0 _ hp
  clear N0
  k_with_none
  refine kat_sorted F N (vs := [.ref T1, .ref T2, .ref T3]) hl (Nat.le_of_ble_eq_true rfl) (Nat.le_of_ble_eq_true rfl) ?_
  intro D' e' h' F' N' l1
  (try k_lt l1)
  kat_kinds
  k_steps
  rename News _ _ _ _ => N20
  exact h _ _ _ (by k_asm) (News.skip (News.skip (News.skip (N20))))
theorem sorted4 {w : World} {A : Around} {E : Value → Shared → Prop} {s : Shared} {h₀ : Heap} {L l T1 T2 T3 T4 : Addr} {m : Str → Option Value} {news : List (Addr × Obj)} {j1 v1 j2 v2 j3 v3 j4 v4 : Int} {t1 u1 t2 u2 t3 u3 t4 u4 : Tok} {Q : Value → Shared → Prop} (X : (hd.heap_1 w.params).In h₀) (F : Fr h₀ L s.heap m) (N0 : News h₀ L s.heap news) (hl : s.heap.IsList l (List.toArray [.ref T1, .ref T2, .ref T3, .ref T4])) (m1 : (T1, tupI j1 v1 t1 u1) ∈ news) (m2 : (T2, tupI j2 v2 t2 u2) ∈ news) (m3 : (T3, tupI j3 v3 t3 u3) ∈ news) (m4 : (T4, tupI j4 v4 t4 u4) ∈ news) (h1 : j1 < j2) (h2 : j2 < j3) (h3 : j3 < j4)
    (h : ∀ D e h', Fr h₀ L h' m → News h₀ L h' ((D, listOf (List.toArray [.ref T1, .ref T2, .ref T3, .ref T4]) e) :: news) → Q (.ref D) { s with heap := h' }) :
    wpAny (model PW w) A (call (.builtin "sorted") [.ref l]) Q E s := by
  have N : News h₀ L s.heap ((T1, tupI j1 v1 t1 u1) :: (T2, tupI j2 v2 t2 u2) :: (T3, tupI j3 v3 t3 u3) :: (T4, tupI j4 v4 t4 u4) :: news) := fun p hp => by
    rcases List.mem_cons.mp hp with rfl | hp
    · exact N0 _ m1
    rcases List.mem_cons.mp hp with rfl | hp
    · exact N0 _ m2
    rcases List.mem_cons.mp hp with rfl | hp
    · exact N0 _ m3
    rcases List.mem_cons.mp hp with rfl | hp
    · exact N0 _ m4
    exact N0 _ hp
  clear N0
  k_with_none
  refine kat_sorted F N (vs := [.ref T1, .ref T2, .ref T3, .ref T4]) hl (Nat.le_of_ble_eq_true rfl) (Nat.le_of_ble_eq_true rfl) ?_
  intro D' e' h' F' N' l1
  (try k_lt l1)
  kat_kinds
  k_steps
  rename News _ _ _ _ => N20
  exact h _ _ _ (by k_asm) (News.skip (News.skip (News.skip (News.skip (N20)))))
inductive SidesAre (news : List (Addr × Obj)) : List Value → List (Int × Int) → Prop
  | nil : SidesAre news [] []
  | cons {T : Addr} {j v : Int} {t u : Tok} {vs : List Value} {js : List (Int × Int)} : (T, tupI j v t u) ∈ news → SidesAre news vs js → SidesAre news (.ref T :: vs) ((j, v) :: js)
theorem SidesAre.length {news : List (Addr × Obj)} : ∀ {vs : List Value} {js : List (Int × Int)}, SidesAre news vs js → vs.length = js.length
  | _, _, .nil => rfl
  | _, _, .cons _ h => congrArg (· + 1) h.length
theorem SidesAre.mono {news more : List (Addr × Obj)} (k : ∀ p ∈ news, p ∈ more) : ∀ {vs : List Value} {js : List (Int × Int)}, SidesAre news vs js → SidesAre more vs js
  | _, _, .nil => .nil
  | _, _, .cons hm h => .cons (k _ hm) (h.mono k)
theorem SidesAre.snoc {news : List (Addr × Obj)} {T : Addr} {j v : Int} {t u : Tok} (hm : (T, tupI j v t u) ∈ news) : ∀ {vs : List Value} {js : List (Int × Int)}, SidesAre news vs js → SidesAre news (vs ++ [.ref T]) (js ++ [(j, v)])
  | _, _, .nil => .cons hm .nil
  | _, _, .cons hx h => .cons hx (h.snoc hm)
theorem sorted_sides {w : World} {A : Around} {E : Value → Shared → Prop} {s : Shared} {h₀ : Heap} {L l : Addr} {m : Str → Option Value} {news : List (Addr × Obj)} {vs : List Value} {js : List (Int × Int)} {n : Nat} {Q : Value → Shared → Prop} (X : (hd.heap_1 w.params).In h₀) (F : Fr h₀ L s.heap m) (N : News h₀ L s.heap news) (hm : (l, listOf vs.toArray n) ∈ news)
    (hS : SidesAre news vs js) (ha : js.Pairwise (fun a b => a.1 < b.1)) (h1 : 1 ≤ js.length) (h4 : js.length ≤ 4)
    (h : ∀ D e h', Fr h₀ L h' m → News h₀ L h' ((D, listOf (List.toArray vs) e) :: news) → Q (.ref D) { s with heap := h' }) :
    wpAny (model PW w) A (call (.builtin "sorted") [.ref l]) Q E s := by
  have hl := News.isList N hm
  rcases hS with _ | ⟨m1, _ | ⟨m2, _ | ⟨m3, _ | ⟨m4, _ | ⟨m5, h5⟩⟩⟩⟩⟩
  · simp at h1
  · exact sorted1 F N hl h
  · simp only [List.pairwise_cons, List.mem_cons, List.not_mem_nil, or_false, forall_eq] at ha
    exact sorted2 X F N hl m1 m2 ha.1 h
  · simp only [List.pairwise_cons, List.mem_cons, List.not_mem_nil, or_false, forall_eq_or_imp, forall_eq] at ha
    exact sorted3 X F N hl m1 m2 m3 ha.1.1 ha.2.1 h
  · simp only [List.pairwise_cons, List.mem_cons, List.not_mem_nil, or_false, forall_eq_or_imp, forall_eq] at ha
    exact sorted4 X F N hl m1 m2 m3 m4 ha.1.1 ha.2.1.1 ha.2.2.1 h
  · simp at h4
def sidesD (js : List (Int × Int)) : List PyData := js.map fun p => .tuple [.int p.1, .int p.2]
theorem sides_reads {h₀ h : Heap} {L : Addr} {news : List (Addr × Obj)} (N : News h₀ L h news) : ∀ {vs : List Value} {js : List (Int × Int)}, SidesAre news vs js → ∃ as, ReadsAll h vs (sidesD js) as
  | _, _, .nil => ⟨_, ReadsAll.nil⟩
  | _, _, .cons hm hr => by
    obtain ⟨as, r⟩ := sides_reads N hr
    exact ⟨_, ReadsAll.cons (reads_tuple_at (News.get N hm) rfl rfl (ReadsAll.cons (Reads.int _ _) (ReadsAll.cons (Reads.int _ _) ReadsAll.nil))) r⟩
theorem sides_ne {prog : Program} {w : World} {A : Around} {E : Value → Shared → Prop} {s : Shared} {h₀ : Heap} {L l D : Addr} {news : List (Addr × Obj)} {vs : List Value} {js : List (Int × Int)} {n e : Nat} {Q : Value → Shared → Prop} (N : News h₀ L s.heap news) (hm : (l, listOf vs.toArray n) ∈ news) (hD : (D, listOf vs.toArray e) ∈ news)
    (hS : SidesAre news vs js) (h4 : js.length ≤ 4) (hu : A.units + 64 < cLine) (h : Q (.bool false) s) : wpAny (model prog w) A (compareOp .NotEq (.ref l) (.ref D)) Q E s := by
  obtain ⟨as, r⟩ := sides_reads N hS
  have hsh : SeqAt.shaped (.list (sidesD js)) = true := by
    rcases js with _ | ⟨a, _ | ⟨b, _ | ⟨c, _ | ⟨d, _ | ⟨e, r⟩⟩⟩⟩⟩ <;> first | rfl | (simp at h4)
  have heq : PyData.eqv (.list (sidesD js)) (.list (sidesD js)) = true := by
    rcases js with _ | ⟨a, _ | ⟨b, _ | ⟨c, _ | ⟨d, _ | ⟨e, r⟩⟩⟩⟩⟩ <;> first | (simp [sidesD, PyData.eqv, PyData.eqvAll]; done) | (simp at h4)
  refine ne_dataH (reads_list_at (News.get N hm) rfl rfl r) (reads_list_at (News.get N hD) rfl rfl r) hsh hsh hu ?_
  rw [heq]
  exact h
end
-- C8 (10)
section
open PySem PySem.W PyProof.Rows
/-- the paths of the places, tie by tie -/
def psOf (pre : List Int) : List (List Int) := pre.foldl (fun ps d => ps ++ [nextPath ps d ((ps.length : Int) - 1)]) [[]]
theorem psOf_snoc (pre : List Int) (d : Int) : psOf (pre ++ [d]) = psOf pre ++ [nextPath (psOf pre) d (((psOf pre).length : Int) - 1)] := by
  unfold psOf
  rw [List.foldl_append]
  rfl
theorem psOf_len (pre : List Int) : (psOf pre).length = pre.length + 1 := by
  have h : ∀ (l : List Int) (ps : List (List Int)), (l.foldl (fun ps d => ps ++ [nextPath ps d ((ps.length : Int) - 1)]) ps).length = ps.length + l.length := by
    intro l
    induction l with
    | nil => intro ps; rfl
    | cons d l ih => intro ps; rw [List.foldl_cons, ih, List.length_append, List.length_cons, List.length_cons, List.length_nil]; omega
  unfold psOf
  rw [h, List.length_cons, List.length_nil]
  omega
theorem psOf_four (d0 d1 d2 d3 : Int) : psOf [d0, d1, d2, d3] = pathsOf d0 d1 d2 d3 := rfl
theorem RefPaths.snoc {news : List (Addr × Obj)} {b n : Nat} {R : Addr} {us : List Value} {l : List Int} (hm : (R, listOf us.toArray n) ∈ news) (hI : IntsAre us l) (hl : l.length ≤ b) : ∀ {vs : List Value} {ps : List (List Int)}, RefPaths news b vs ps → RefPaths news b (vs ++ [.ref R]) (ps ++ [l])
  | _, _, .nil => .cons hm hI hl .nil
  | _, _, .cons h1 h2 h3 h => .cons h1 h2 h3 (h.snoc hm hI hl)
theorem enumV_eq : ∀ (vs : List Value) (a : Nat), enumItems a vs = (vs.zipIdx a).map fun p => (fun (i : Nat) (v : Value) => Itm.pair (fun t => .int (i : Int) t) v) p.2 p.1
  | [], _ => rfl
  | v :: r, a => by rw [enumItems, enumV_eq r (a + 1), List.zipIdx_cons]; rfl
section
variable {prog : Program} {w : World} {A : Around} {E : Value → Shared → Prop} {s : Shared} {env : Env} {h₀ : Heap} {body : List Stmt} {Q : Flow → Shared → Prop} {target : Expr}
/-- the paths' loop: it grows the list of paths by one a turn -/
theorem ir_paths {ws : List (Addr × String)} {keep base : List (Addr × Obj)} {ds : List (Int × Tok)} (st : List Str) {P P0 T : Addr} {n₀ n₁ : Nat} {m₀ : Str → Option Value} (Pa : Addr → Prop) (h0 : (P0, listOf (List.toArray []) n₁) ∈ base) (h0T : @Ne Nat P0 T)
    (step : ∀ (pre : List (Int × Tok)) (a : Int × Tok) (r : List (Int × Tok)) (u : Str → Option Value) (vs : List Value) (n : Nat) (pls : List (Addr × Obj)) (items : List Itm), ds = pre ++ a :: r → RefPaths (pls ++ base) pre.length vs (psOf (pre.map (·.1))) → (∀ q ∈ pls, Pa q.1) →
      (∀ m' R us n' n2 l, l = nextPath (psOf (pre.map (·.1))) a.1 (pre.length : Int) → IntsAre us l → l.length ≤ pre.length + 1 → Pa R → @Ne Nat R T → (∀ z : Str, st.contains z = false → m' z = m₀ z) →
        ItemsRest prog w A E h₀ env target body Q s ws keep items m' ((P, listOf (List.toArray (vs ++ [.ref R])) n') :: (R, listOf (List.toArray us) n2) :: (pls ++ base))) →
      ItemsRest prog w A E h₀ env target body Q s ws keep (Itm.pair (fun t => .int (pre.length : Int) t) (.int a.1 a.2) :: items) (fun z => if st.contains z then u z else m₀ z) ((P, listOf (List.toArray vs) n) :: (pls ++ base)))
    (fin : ∀ (u : Str → Option Value) (vs : List Value) (n : Nat) (pls : List (Addr × Obj)), RefPaths (pls ++ base) ds.length vs (psOf (ds.map (·.1))) → (∀ q ∈ pls, Pa q.1) → (∀ a, .ref a ∈ vs → a ≠ T) → ItemsRest prog w A E h₀ env target body Q s ws keep [] (fun z => if st.contains z then u z else m₀ z) ((P, listOf (List.toArray vs) n) :: (pls ++ base))) :
    ItemsRest prog w A E h₀ env target body Q s ws keep (((ds.map fun a => Value.int a.1 a.2).zipIdx 0).map fun p => (fun (i : Nat) (v : Value) => Itm.pair (fun t => .int (i : Int) t) v) p.2 p.1) m₀ ((P, listOf (List.toArray [.ref P0]) n₀) :: base) := by
  have e : ∀ (l : List (Int × Tok)) (k : Nat), (((l.map fun a => Value.int a.1 a.2).zipIdx k).map fun p => (fun (i : Nat) (v : Value) => Itm.pair (fun t => .int (i : Int) t) v) p.2 p.1) = (l.zipIdx k).map fun p => (fun (i : Nat) (a : Int × Tok) => Itm.pair (fun t => .int (i : Int) t) (.int a.1 a.2)) p.2 p.1 := by
    intro l
    induction l with
    | nil => intro k; rfl
    | cons a r ih => intro k; rw [List.map_cons, List.zipIdx_cons, List.zipIdx_cons, List.map_cons, List.map_cons, ih (k + 1)]
  rw [e ds 0]
  refine IR_ind (f := fun (i : Nat) (a : Int × Tok) => Itm.pair (fun t => .int (i : Int) t) (.int a.1 a.2)) (fun pre m nw => (∃ vs n pls, nw = (P, listOf (List.toArray vs) n) :: (pls ++ base) ∧ RefPaths (pls ++ base) pre.length vs (psOf (pre.map (·.1))) ∧ (∀ q ∈ pls, Pa q.1) ∧ ∀ a, .ref a ∈ vs → a ≠ T) ∧ ∀ z : Str, st.contains z = false → m z = m₀ z) ?_ ?_ [] ds m₀ _ rfl
    ⟨⟨[.ref P0], n₀, [], rfl, .cons h0 .nil (Nat.le_refl _) .nil, ⟨fun _ h => (nomatch h), fun a ha => by simp only [List.mem_cons, List.not_mem_nil, or_false, Value.ref.injEq] at ha; subst ha; exact h0T⟩⟩, fun _ _ => rfl⟩
  · rintro pre a r m nw items e ⟨⟨vs, n, pls, rfl, hR, hPa, hv⟩, h2⟩ IH
    obtain ⟨u, rfl⟩ := frame_form0 h2
    refine step pre a r u vs n pls items e hR hPa fun m' R us n' n2 l hl hI hlen hp hRT h3 => ?_
    refine IH m' ((P, listOf (List.toArray (vs ++ [.ref R])) n') :: (((R, listOf (List.toArray us) n2) :: pls) ++ base)) ⟨⟨_, _, _, rfl, ?_, ?_, ?_⟩, h3⟩
    · rw [List.map_append, List.map_singleton, psOf_snoc, psOf_len, List.length_map, List.length_append, List.length_singleton, show ((pre.length + 1 : Nat) : Int) - 1 = (pre.length : Int) from by omega, ← hl]
      exact (hR.sub (Nat.le_succ _) fun _ _ _ ho => .tail _ ho).snoc (.head _) hI hlen
    · intro q hq
      rcases List.mem_cons.mp hq with rfl | hq
      · exact hp
      · exact hPa q hq
    · intro x hx
      rcases List.mem_append.mp hx with hx | hx
      · exact hv x hx
      · simp only [List.mem_cons, List.not_mem_nil, or_false, Value.ref.injEq] at hx
        subst hx
        exact hRT
  · rintro m nw ⟨⟨vs, n, pls, rfl, hR, hPa, hv⟩, h2⟩
    obtain ⟨u, rfl⟩ := frame_form0 h2
    exact fin u vs n pls hR hPa hv
end
theorem prepV {G : Prop} {g : Heap} {L T P Dp Dm Dd xn : Addr} {h : Heap} {mm : Str → Option Value} {news : List (Addr × Obj)} {vs : List Value} {ps : List (List Int)} {c cP : Nat} {oP oM oD on : Obj} {mkv lv : Value} (F : Fr g L h mm) (N : News g L h news) (eT : mm "texts" = some (.ref T)) (eP : mm "paths" = some (.ref P))
    (e1 : mm "prices" = some (.ref Dp)) (e2 : mm "marked" = some mkv) (e3 : mm "letters" = some lv) (e4 : mm "marks" = some (.ref Dm)) (hT : (T, listOf #[] c) ∈ news) (hV : (P, listOf vs.toArray cP) ∈ news) (hR : RefPaths news 4 vs ps)
    (hp : (Dp, oP) ∈ news) (hm : (Dm, oM) ∈ news) (hd : (Dd, oD) ∈ news) (hx : (xn, on) ∈ news) (hv : ∀ a, .ref a ∈ vs → a ≠ T) (nP : P ≠ T) (nDp : Dp ≠ T) (nDm : Dm ≠ T) (nDd : Dd ≠ T) (nx : xn ≠ T)
    (k : ∀ (T P : Addr) (cP : Nat) (m9 : Str → Option Value) (rest : List (Addr × Obj)) (all : List (Addr × List Int)), Fr g L h (kstB m9 [("prices", .ref Dp), ("marked", mkv), ("letters", lv), ("marks", .ref Dm), ("texts", .ref T), ("paths", .ref P)]) → News g L h ((T, listOf (List.toArray []) c) :: (Dp, oP) :: (Dm, oM) :: rest) →
      (P, listOf (List.toArray (all.map fun a => .ref a.1)) cP) ∈ rest → ps = all.map (·.2) → (∀ a ∈ all, ∃ us n, (a.1, listOf (List.toArray us) n) ∈ rest ∧ IntsAre us a.2 ∧ a.2.length ≤ 4) → (Dp, oP) ∈ rest → (Dm, oM) ∈ rest → (Dd, oD) ∈ rest → (xn, on) ∈ rest → (∀ p ∈ rest, p.1 ≠ T) → G) : G := by
  refine prep N eT eP hT hV rfl hR hp hm hd hx hv nP nDp nDm nDd nx fun rest x1 x2 x3 => ?_
  obtain ⟨all, e1', e2', k1⟩ := x3.zip
  refine k T P cP mm rest all ?_ x1 (e1' ▸ x2) e2' k1
  have em : kstB mm [("prices", .ref Dp), ("marked", mkv), ("letters", lv), ("marks", .ref Dm), ("texts", .ref T), ("paths", .ref P)] = mm := by
    funext z
    refine kstB_eq (fun p hp => ?_) fun _ => rfl
    simp only [List.mem_cons, List.not_mem_nil, or_false] at hp
    rcases hp with rfl | rfl | rfl | rfl | rfl | rfl <;> assumption
  rw [em]
  exact F
theorem News.names3 {h₀ h : Heap} {L a b c : Addr} {t : Addr × Obj} {oa ob oc : Obj} {r : List (Addr × Obj)} (_N : News h₀ L h (t :: (a, oa) :: (b, ob) :: (c, oc) :: r)) : ∃ x y z, x = a ∧ y = b ∧ z = c := ⟨a, b, c, rfl, rfl, rfl⟩
theorem News.turn3 {h₀ h : Heap} {L : Addr} {t a b : Addr × Obj} {r : List (Addr × Obj)} (N : News h₀ L h (t :: a :: b :: r)) : News h₀ L h (b :: a :: r) := fun p hp => by
  rcases List.mem_cons.mp hp with rfl | hp
  · exact N _ (.tail _ (.tail _ (.head _)))
  rcases List.mem_cons.mp hp with rfl | hp
  · exact N _ (.tail _ (.head _))
  · exact N _ (.tail _ (.tail _ (.tail _ hp)))
theorem paths_ne {P T Z d1 d2 d3 d4 : Addr} {oT oZ o1 o2 o3 o4 : Obj} (h1 : @LT.lt Nat _ P T) (h2 : @LT.lt Nat _ Z P ∧ @LT.lt Nat _ d1 P ∧ @LT.lt Nat _ d2 P ∧ @LT.lt Nat _ d3 P ∧ @LT.lt Nat _ d4 P) : ∀ q ∈ [(T, oT), (Z, oZ), (d1, o1), (d2, o2), (d3, o3), (d4, o4)], q.1 ≠ P := by
  intro q hq
  simp only [List.mem_cons, List.not_mem_nil, or_false] at hq
  rcases hq with rfl | rfl | rfl | rfl | rfl | rfl
  · exact Nat.ne_of_gt h1
  · exact Nat.ne_of_lt h2.1
  · exact Nat.ne_of_lt h2.2.1
  · exact Nat.ne_of_lt h2.2.2.1
  · exact Nat.ne_of_lt h2.2.2.2.1
  · exact Nat.ne_of_lt h2.2.2.2.2
theorem paths_off {I P : Addr} {pls base : List (Addr × Obj)} (h1 : ∀ q ∈ pls, @LT.lt Nat _ (I + 1) q.1 ∧ @LT.lt Nat _ P q.1) (h2 : ∀ q ∈ base, q.1 ≠ P) : ∀ q ∈ pls ++ base, q.1 ≠ P := fun q hq => by
  rcases List.mem_append.mp hq with hq | hq
  · exact Nat.ne_of_gt (h1 q hq).2
  · exact h2 q hq
theorem paths_end {h₀ : Heap} {L : Addr} {s₁ : Shared} {I P R : Addr} {oI oE oR oL oP : Obj} {aB : Addr × Obj} {pls base : List (Addr × Obj)} {rest : (Str → Option Value) → List (Addr × Obj) → Prop} {h' : Heap} {tk : Nat} {m' : Str → Option Value} (F : Fr h₀ L h' m')
    (N : News h₀ L h' ((R, oR) :: aB :: (I + 1, oE) :: (I, oI) :: (P, oP) :: (pls ++ base))) (h1 : ∀ q ∈ (P, oL) :: base, q.1 < I) (h2 : ∀ q ∈ pls, @LT.lt Nat _ (I + 1) q.1 ∧ @LT.lt Nat _ P q.1) (hR : @LT.lt Nat _ (I + 1) R)
    (r : rest m' ((P, oP) :: (R, oR) :: (pls ++ base))) : UnrEndW h₀ L s₁ [(I + 1, oE), (I, oI)] rest { s₁ with heap := h', toks := tk } := by
  refine end_turn F N _ ?_ ?_ r
  · intro p hp
    rcases List.mem_cons.mp hp with rfl | hp
    · exact .tail _ (.tail _ (.head _))
    rcases List.mem_cons.mp hp with rfl | hp
    · exact .tail _ (.tail _ (.tail _ (.head _)))
    rcases List.mem_cons.mp hp with rfl | hp
    · exact .tail _ (.tail _ (.tail _ (.tail _ (.head _))))
    rcases List.mem_cons.mp hp with rfl | hp
    · exact .head _
    · exact .tail _ (.tail _ (.tail _ (.tail _ (.tail _ hp))))
  · have lo : ∀ {x : Nat}, x < I → ∀ q ∈ [((I + 1 : Nat), oE), (I, oI)], x ≠ q.1 := fun {x} hx q hq => by
      rcases List.mem_cons.mp hq with rfl | hq
      · exact Nat.ne_of_lt (Nat.lt_succ_of_lt hx)
      · rw [List.mem_singleton.mp hq]; exact Nat.ne_of_lt hx
    have hi : ∀ {x : Nat}, I + 1 < x → ∀ q ∈ [((I + 1 : Nat), oE), (I, oI)], x ≠ q.1 := fun {x} hx q hq => by
      rcases List.mem_cons.mp hq with rfl | hq
      · exact Nat.ne_of_gt hx
      · rw [List.mem_singleton.mp hq]; exact Nat.ne_of_gt (Nat.lt_trans (Nat.lt_succ_self _) hx)
    intro p hp
    rcases List.mem_cons.mp hp with rfl | hp
    · exact lo (h1 (P, oL) (.head _))
    rcases List.mem_cons.mp hp with rfl | hp
    · exact hi hR
    rcases List.mem_append.mp hp with hp | hp
    · exact hi (h2 p hp).1
    · exact lo (h1 p (.tail _ hp))
local macro_rules | `(tactic| walk_at "exec For Name Name cons nil") => `(tactic| refine Hold.mk ?_)
local macro_rules | `(tactic| walk_at "exec For Tuple Call cons nil") => `(tactic| refine Hold.mk ?_)
local macro_rules | `(tactic| walk_at "call type:enumerate") => `(tactic| refine Hold.mk ?_)
local macro_rules | `(tactic| walk_at "pyIter ref") => `(tactic| refine Hold.mk ?_)
local macro_rules | `(tactic| walk_at "subscriptTail Name BinOp ref int") => `(tactic| refine Hold.mk ?_)
local macro_rules | `(tactic| walk_at "binaryOp Add ref ref") => `(tactic| refine Hold.mk ?_)
local macro_rules | `(tactic| walk_at "UnrEndW") => `(tactic| refine Hold.mk ?_)
local macro_rules | `(tactic| walk_at "call builtin:str.lower") => `(tactic| (refine Hold.mk ?_))
local macro_rules | `(tactic| walk_at "compareOp In int ref") => `(tactic| (refine Hold.mk ?_))
local macro_rules | `(tactic| walk_at "inplaceOp Add str str") => `(tactic| ((try dsimp only); k_here; (with_reducible show wpAny _ _ (inplaceOp Operator.Add (Value.str (S _) _) (Value.str _ _)) _ _ _); (refine iadd_S (by first | exact rfl | exact str_five (by assumption)) (by assumption) (by first | exact Nat.le_of_ble_eq_true rfl | omega) ?_); intro _ _))
theorem texts_use {w : World} {mean : ExcName → Option Value} {mg mb : Str → Option Value} {Dd Dp Dm xn : Addr} {on : Obj} {c0 c1 c2 : Nat} {d0 d1 d2 d3 p0 p1 p2 p3 mk : Int} {t0 t1 t2 t3 u0 u1 u2 u3 tm tl ta tb : Tok} {ma mb' cs : List Nat} {dp un : Nat} {gd : Option (List Code)} {cn : Str} {cs' : Scope} {a : Addr} {ccd : Value} {cl : List (Str × Addr)} {outer : List Env} {A₀ : Around} {base h₀ : Heap} {L : Addr} {m : Str → Option Value} {s : Shared} {Q E : Value → Shared → Prop}
   (h0 : 0 ≤ d0) (h1 : 0 ≤ d1) (h2 : 0 ≤ d2) (h3 : 0 ≤ d3) (hb0 : d0 < 1000000) (hb1 : d1 < 1000000) (hb2 : d2 < 1000000) (hb3 : d3 < 1000000) (hasc : cs.all (· < 128) = true) (hlen : cs.length = 4) (hma : ma.length ≤ 8) (hmb : mb'.length ≤ 8) :
   Pre w mean mg mb cs' A₀ outer base h₀ L m [(Dd, listOf #[.int d0 t0, .int d1 t1, .int d2 t2, .int d3 t3] c0), (Dp, listOf #[.int p0 u0, .int p1 u1, .int p2 u2, .int p3 u3] c1), (Dm, listOf #[.str (S ma) ta, .str (S mb') tb] c2), (xn, on)] s.heap dp un 3 24 ((∀ (R : Addr) (h' : Heap) (tk' : Nat) (xs : List Value) (c : Nat), Fr h₀ L h' m → News h₀ L h' [(R, listOf (List.toArray xs) c), (Dd, listOf #[.int d0 t0, .int d1 t1, .int d2 t2, .int d3 t3] c0), (Dp, listOf #[.int p0 u0, .int p1 u1, .int p2 u2, .int p3 u3] c1), (Dm, listOf #[.str (S ma) ta, .str (S mb') tb] c2), (xn, on)] →
      StrsAre xs ((pathsOf d0 d1 d2 d3).map fun p => txtFrom [p0, p1, p2, p3] mk ma mb' p 0 cs) → Q (.ref R) { s with heap := h', toks := tk' }) →
    wpAny (model PW w) (ktrTop dp un gd cn cs' L a ccd cl outer) (call (.ref 261) [.ref Dd, .ref Dp, .int mk tm, .str (S cs) tl, .ref Dm]) Q E s) := by
  intro B F X N T hk hd hu hret
  refine wpAny_call ?_
  k_with_none
  k_dflt cell_enter
  (k_steps; repeat' (first | ((refine Hold.out ?_; first | ((with_reducible show wpAny _ _ (compareOp _ _ _) _ _ _); (k_here; (with_reducible rename News _ _ _ _ => zN9); refine in_led zN9 (by repeat (first | assumption | refine List.mem_cons_of_mem _ ?_)) (by assumption) ?_)) | (((try dsimp only); (with_reducible show wpAny _ _ (call (Value.builtin "str.lower") _) _ _ _)); ((try dsimp only); k_here; (with_reducible show wpAny _ _ (call (Value.builtin "str.lower") [Value.str (S [_]) _]) _ _ _); (refine KXw.lower (lower_one (by assumption)) (lower_fits (by assumption)) ?_); intro _ _))); k_steps) | (refine gp_use (by assumption) ?_; (try dsimp only); k_steps)))
  refine Hold.out ?_
  rename Fr _ _ _ _ => F3
  refine gen_post1 ?_
  intro _ _
  refine For_turns F3 ?_
  (k_steps; repeat' (first | ((refine Hold.out ?_; first | ((with_reducible show wpAny _ _ (compareOp _ _ _) _ _ _); (k_here; (with_reducible rename News _ _ _ _ => zN9); refine in_led zN9 (by repeat (first | assumption | refine List.mem_cons_of_mem _ ?_)) (by assumption) ?_)) | (((try dsimp only); (with_reducible show wpAny _ _ (call (Value.builtin "str.lower") _) _ _ _)); ((try dsimp only); k_here; (with_reducible show wpAny _ _ (call (Value.builtin "str.lower") [Value.str (S [_]) _]) _ _ _); (refine KXw.lower (lower_one (by assumption)) (lower_fits (by assumption)) ?_); intro _ _))); k_steps) | (refine gp_use (by assumption) ?_; (try dsimp only); k_steps)))
  refine Hold.out ?_
  rename Fr _ _ _ _ => F4
  rename News _ _ _ _ => N4
  obtain ⟨T9, P9, Z9, e7, e8, e9⟩ := News.names3 N4
  subst e7 e8 e9
  rename Z9 < P9 ∧ _ => lP
  rename P9 < T9 ∧ _ => lT
  have N5 := News.turn3 N4
  clear N4
  have hb5 := paths_ne (oT := listOf #[] 0) (oZ := listOf #[] 0) (o1 := listOf #[.int d0 t0, .int d1 t1, .int d2 t2, .int d3 t3] c0) (o2 := listOf #[.int p0 u0, .int p1 u1, .int p2 u2, .int p3 u3] c1) (o3 := listOf #[.str (S ma) ta, .str (S mb') tb] c2) (o4 := on) lT.1 lP
  refine ktu_enum (lo := listOf #[.int d0 t0, .int d1 t1, .int d2 t2, .int d3 t3] c0) (vs := [.int d0 t0, .int d1 t1, .int d2 t2, .int d3 t3]) (by rfl) F4 N5 (.tail _ (.tail _ (.tail _ (.head _)))) (by rfl) (by rfl) (enumV_eq _ 0) ?_
  intro I5 hI5
  have hIP : @LT.lt Nat _ P9 I5 := hI5 _ (.head _)
  have hIT : @LT.lt Nat _ T9 I5 := hI5 _ (.tail _ (.head _))
  refine ir_paths (ds := [(d0, t0), (d1, t1), (d2, t2), (d3, t3)]) ["place", "draw"] (P0 := Z9) (T := T9) (fun a => I5 + 1 < a ∧ P9 < a) (.tail _ (.head _)) (Nat.ne_of_lt (Nat.lt_trans lP.1 lT.1)) ?_ ?_
  · intro pre a9 r9 uu vs n pls items e9 hR hPa IH
    have hp4 : pre.length < 4 := by have := congrArg List.length e9; simp at this; omega
    have hvs : vs.length = pre.length + 1 := by rw [hR.length, psOf_len, List.length_map]
    have hps : (psOf (pre.map (·.1))).length = pre.length + 1 := by rw [psOf_len, List.length_map]
    have hoff := paths_off hPa hb5
    (k_steps; repeat' (first | ((refine Hold.out ?_; first | ((with_reducible show wpAny _ _ (compareOp _ _ _) _ _ _); (k_here; (with_reducible rename News _ _ _ _ => zN9); refine in_led zN9 (by repeat (first | assumption | refine List.mem_cons_of_mem _ ?_)) (by assumption) ?_)) | (((try dsimp only); (with_reducible show wpAny _ _ (call (Value.builtin "str.lower") _) _ _ _)); ((try dsimp only); k_here; (with_reducible show wpAny _ _ (call (Value.builtin "str.lower") [Value.str (S [_]) _]) _ _ _); (refine KXw.lower (lower_one (by assumption)) (lower_fits (by assumption)) ?_); intro _ _))); k_steps) | (refine gp_use (by assumption) ?_; (try dsimp only); k_steps)))
    refine Hold.out ?_
    rename News _ _ _ _ => N6
    refine item_pathM pre.length N6 (.tail _ (.tail _ (.head _))) (hR.sub (Nat.le_refl _) fun _ _ _ ho => .tail _ (.tail _ (.tail _ ho))) (by rw [hps]; rfl) (by omega) (by omega) ?_
    intro Dx ux nx hDx hIx hlx
    (k_steps; repeat' (first | ((refine Hold.out ?_; first | ((with_reducible show wpAny _ _ (compareOp _ _ _) _ _ _); (k_here; (with_reducible rename News _ _ _ _ => zN9); refine in_led zN9 (by repeat (first | assumption | refine List.mem_cons_of_mem _ ?_)) (by assumption) ?_)) | (((try dsimp only); (with_reducible show wpAny _ _ (call (Value.builtin "str.lower") _) _ _ _)); ((try dsimp only); k_here; (with_reducible show wpAny _ _ (call (Value.builtin "str.lower") [Value.str (S [_]) _]) _ _ _); (refine KXw.lower (lower_one (by assumption)) (lower_fits (by assumption)) ?_); intro _ _))); k_steps) | (refine gp_use (by assumption) ?_; (try dsimp only); k_steps)))
    refine Hold.out ?_
    rename Fr _ _ _ _ => F7
    rename News _ _ _ _ => N7
    rename I5 + 1 < _ ∧ _ => lB
    refine add_path F7 N7 hDx (fun q hq => .tail _ hq) (.head _) hIx hlx (by omega) ?_
    intro Rx us7 h7 l7 hl7 F8 N8 lR hI7 hb7
    have lR1 : @LT.lt Nat _ (I5 + 1) Rx := lR (I5 + 1, _) (.tail _ (.head _))
    have lR2 : @LT.lt Nat _ P9 Rx := lR (P9, _) (.tail _ (.tail _ (.tail _ (.head _))))
    clear F7 N7 lR
    (k_steps; repeat' (first | ((refine Hold.out ?_; first | ((with_reducible show wpAny _ _ (compareOp _ _ _) _ _ _); (k_here; (with_reducible rename News _ _ _ _ => zN9); refine in_led zN9 (by repeat (first | assumption | refine List.mem_cons_of_mem _ ?_)) (by assumption) ?_)) | (((try dsimp only); (with_reducible show wpAny _ _ (call (Value.builtin "str.lower") _) _ _ _)); ((try dsimp only); k_here; (with_reducible show wpAny _ _ (call (Value.builtin "str.lower") [Value.str (S [_]) _]) _ _ _); (refine KXw.lower (lower_one (by assumption)) (lower_fits (by assumption)) ?_); intro _ _))); k_steps) | (refine gp_use (by assumption) ?_; (try dsimp only); k_steps)))
    rename Fr _ _ _ _ => F9
    rename News _ _ _ _ => N9
    refine append_K F9 N9 (Upd.tail (Nat.ne_of_gt lR2) (Upd.tail (Nat.ne_of_gt lB.2.2.1) (Upd.tail (Nat.ne_of_gt (Nat.lt_succ_of_lt hIP)) (Upd.tail (Nat.ne_of_gt hIP) (Upd.head hoff))))) ?_ (by rw [sizeLine_eq, List.size_toArray]; omega)
    intro h10 F10 N10
    rw [List.push_toArray] at N10
    clear F9 N9
    (k_steps; repeat' (first | ((refine Hold.out ?_; first | ((with_reducible show wpAny _ _ (compareOp _ _ _) _ _ _); (k_here; (with_reducible rename News _ _ _ _ => zN9); refine in_led zN9 (by repeat (first | assumption | refine List.mem_cons_of_mem _ ?_)) (by assumption) ?_)) | (((try dsimp only); (with_reducible show wpAny _ _ (call (Value.builtin "str.lower") _) _ _ _)); ((try dsimp only); k_here; (with_reducible show wpAny _ _ (call (Value.builtin "str.lower") [Value.str (S [_]) _]) _ _ _); (refine KXw.lower (lower_one (by assumption)) (lower_fits (by assumption)) ?_); intro _ _))); k_steps) | (refine gp_use (by assumption) ?_; (try dsimp only); k_steps)))
    refine Hold.out ?_
    rename Fr _ _ _ _ => F11
    rename News _ _ _ _ => N11
    refine paths_end F11 N11 hI5 hPa lR1 ⟨⟨.tail _ (.tail _ (List.mem_append_right _ (.tail _ (.tail _ (.head _))))), trivial⟩, IH _ _ _ _ _ _ ?_ hI7 hb7 ⟨lR1, lR2⟩ (Nat.ne_of_gt (Nat.lt_trans (Nat.lt_succ_of_lt hIT) lR1)) ?_⟩
    · rw [hl7]; rfl
    · intro z g3
      have g4 := g3
      simp only [List.contains_cons, List.contains_nil, Bool.or_false, Bool.or_eq_false_iff, beq_eq_false_iff_ne, ne_eq] at g4
      simp [g4, kstB]
  intro uu vs nV pls hRv hPav hvT
  (k_steps; repeat' (first | ((refine Hold.out ?_; first | ((with_reducible show wpAny _ _ (compareOp _ _ _) _ _ _); (k_here; (with_reducible rename News _ _ _ _ => zN9); refine in_led zN9 (by repeat (first | assumption | refine List.mem_cons_of_mem _ ?_)) (by assumption) ?_)) | (((try dsimp only); (with_reducible show wpAny _ _ (call (Value.builtin "str.lower") _) _ _ _)); ((try dsimp only); k_here; (with_reducible show wpAny _ _ (call (Value.builtin "str.lower") [Value.str (S [_]) _]) _ _ _); (refine KXw.lower (lower_one (by assumption)) (lower_fits (by assumption)) ?_); intro _ _))); k_steps) | (refine gp_use (by assumption) ?_; (try dsimp only); k_steps)))
  refine Hold.out ?_
  rename Fr _ _ _ _ => F12
  rename News _ _ _ _ => N12
  refine prepV (Dd := Dd) (Dp := Dp) (Dm := Dm) (xn := xn) F12 N12 (by with_unfolding_all rfl) (by with_unfolding_all rfl) (by with_unfolding_all rfl) (by with_unfolding_all rfl) (by with_unfolding_all rfl) (by with_unfolding_all rfl) (.tail _ (List.mem_append_right _ (.head _))) (.head _) (hRv.sub (Nat.le_refl 4) fun _ _ _ ho => .tail _ ho)
    (.tail _ (List.mem_append_right _ (.tail _ (.tail _ (.tail _ (.head _)))))) (.tail _ (List.mem_append_right _ (.tail _ (.tail _ (.tail _ (.tail _ (.head _))))))) (.tail _ (List.mem_append_right _ (.tail _ (.tail _ (.head _))))) (.tail _ (List.mem_append_right _ (.tail _ (.tail _ (.tail _ (.tail _ (.tail _ (.head _)))))))) hvT (Nat.ne_of_lt lT.1) (Nat.ne_of_lt lT.2.2.2.1) (Nat.ne_of_lt lT.2.2.2.2.1) (Nat.ne_of_lt lT.2.2.1) (Nat.ne_of_lt lT.2.2.2.2.2) ?_
  clear N12 F12
  intro T9 P9 cP9 m9 rest all F10 N10 hP10 eps hall hp10 hm10 hd10 hx10 hne10
  have eps' : all.map (·.2) = pathsOf d0 d1 d2 d3 := eps.symm.trans (psOf_four d0 d1 d2 d3)
  refine gen_post1 ?_
  intro _ _
  refine For_turns F10 ?_
  (k_steps; repeat' (first | ((refine Hold.out ?_; first | ((with_reducible show wpAny _ _ (compareOp _ _ _) _ _ _); (k_here; (with_reducible rename News _ _ _ _ => zN9); refine in_led zN9 (by repeat (first | assumption | refine List.mem_cons_of_mem _ ?_)) (by assumption) ?_)) | (((try dsimp only); (with_reducible show wpAny _ _ (call (Value.builtin "str.lower") _) _ _ _)); ((try dsimp only); k_here; (with_reducible show wpAny _ _ (call (Value.builtin "str.lower") [Value.str (S [_]) _]) _ _ _); (refine KXw.lower (lower_one (by assumption)) (lower_fits (by assumption)) ?_); intro _ _))); k_steps) | (refine gp_use (by assumption) ?_; (try dsimp only); k_steps)))
  refine Hold.out ?_
  refine iter_listTurns (lo := listOf (List.toArray (all.map fun a => .ref a.1)) cP9) (vs := all.map fun a => .ref a.1) (by rfl) F10 N10 (List.mem_cons_of_mem _ (List.mem_cons_of_mem _ (List.mem_cons_of_mem _ hP10))) (by rfl) (by rfl) ?_
  intro I9 hI9
  rw [val_zip all 0]
  refine IR_ind (f := fun (_ : Nat) (a : Addr × List Int) => Itm.val (.ref a.1)) (Inv := InvO T9 Dp Dm (listOf #[.int p0 u0, .int p1 u1, .int p2 u2, .int p3 u3] c1) (listOf #[.str (S ma) ta, .str (S mb') tb] c2) rest (fun p => txtFrom [p0, p1, p2, p3] mk ma mb' p 0 cs) (kstB m9 [("prices", .ref Dp), ("marked", .int mk tm), ("letters", .str (S cs) tl), ("marks", .ref Dm), ("texts", .ref T9), ("paths", .ref P9)])) ?step ?fin [] all _ _ rfl ?init
  case init => exact ⟨⟨[], _, rfl, .nil, fun _ _ => rfl⟩⟩
  case fin =>
    rintro m news ⟨⟨xs, c, rfl, hX, hS⟩⟩
    obtain ⟨u, rfl⟩ := frame_form0 hS
    refine ItemsRest.zero (fun h' tk' F' N' => ?_)
    (k_steps; repeat' (first | ((refine Hold.out ?_; first | ((with_reducible show wpAny _ _ (compareOp _ _ _) _ _ _); (k_here; (with_reducible rename News _ _ _ _ => zN9); refine in_led zN9 (by repeat (first | assumption | refine List.mem_cons_of_mem _ ?_)) (by assumption) ?_)) | (((try dsimp only); (with_reducible show wpAny _ _ (call (Value.builtin "str.lower") _) _ _ _)); ((try dsimp only); k_here; (with_reducible show wpAny _ _ (call (Value.builtin "str.lower") [Value.str (S [_]) _]) _ _ _); (refine KXw.lower (lower_one (by assumption)) (lower_fits (by assumption)) ?_); intro _ _))); k_steps) | (refine gp_use (by assumption) ?_; (try dsimp only); k_steps)))
    rename Fr h₀ _ _ _ => F20
    rename News _ _ _ _ => N20
    refine hret T9 _ _ xs c F20 (fun p hp => N20 p ?_) ?_
    · simp only [List.mem_cons, List.not_mem_nil, or_false] at hp
      rcases hp with rfl | rfl | rfl | rfl | rfl
      · exact List.mem_cons_self
      · exact List.mem_cons_of_mem _ (List.mem_cons_of_mem _ (List.mem_cons_of_mem _ hd10))
      · exact List.mem_cons_of_mem _ List.mem_cons_self
      · exact List.mem_cons_of_mem _ (List.mem_cons_of_mem _ List.mem_cons_self)
      · exact List.mem_cons_of_mem _ (List.mem_cons_of_mem _ (List.mem_cons_of_mem _ hx10))
    · rw [← eps', List.map_map]
      exact hX
  case step =>
    rintro pre a r m news items eall ⟨⟨xs, c, rfl, hX, hS⟩⟩ IH
    obtain ⟨us, n, hus, hIus, hlen⟩ := hall a (by have h9 : a ∈ [] ++ all := by rw [eall]; simp
                                                  simpa using h9)
    obtain ⟨u, rfl⟩ := frame_form0 hS
    refine ItemsRest.val (fun h' tk' F11 => ?_)
    ktu_objs
    (k_steps; repeat' (first | ((refine Hold.out ?_; first | ((with_reducible show wpAny _ _ (compareOp _ _ _) _ _ _); (k_here; (with_reducible rename News _ _ _ _ => zN9); refine in_led zN9 (by repeat (first | assumption | refine List.mem_cons_of_mem _ ?_)) (by assumption) ?_)) | (((try dsimp only); (with_reducible show wpAny _ _ (call (Value.builtin "str.lower") _) _ _ _)); ((try dsimp only); k_here; (with_reducible show wpAny _ _ (call (Value.builtin "str.lower") [Value.str (S [_]) _]) _ _ _); (refine KXw.lower (lower_one (by assumption)) (lower_fits (by assumption)) ?_); intro _ _))); k_steps) | (refine gp_use (by assumption) ?_; (try dsimp only); k_steps)))
    refine Hold.out ?_
    rename Fr _ _ _ _ => F12
    refine gen_post1 ?_
    intro _ _
    refine For_turns F12 ?_
    (k_steps; repeat' (first | ((refine Hold.out ?_; first | ((with_reducible show wpAny _ _ (compareOp _ _ _) _ _ _); (k_here; (with_reducible rename News _ _ _ _ => zN9); refine in_led zN9 (by repeat (first | assumption | refine List.mem_cons_of_mem _ ?_)) (by assumption) ?_)) | (((try dsimp only); (with_reducible show wpAny _ _ (call (Value.builtin "str.lower") _) _ _ _)); ((try dsimp only); k_here; (with_reducible show wpAny _ _ (call (Value.builtin "str.lower") [Value.str (S [_]) _]) _ _ _); (refine KXw.lower (lower_one (by assumption)) (lower_fits (by assumption)) ?_); intro _ _))); k_steps) | (refine gp_use (by assumption) ?_; (try dsimp only); k_steps)))
    refine Hold.out ?_
    rename News _ _ _ _ => N13
    refine enumS_turns (by rfl) F12 N13 hasc ?_
    intro I13 hI13
    refine inner_ind (fun pre => txtFrom [p0, p1, p2, p3] mk ma mb' a.2 0 pre) rfl (by with_unfolding_all rfl) ?st ?fi
    case fi =>
      intro t u'
      (k_steps; repeat' (first | ((refine Hold.out ?_; first | ((with_reducible show wpAny _ _ (compareOp _ _ _) _ _ _); (k_here; (with_reducible rename News _ _ _ _ => zN9); refine in_led zN9 (by repeat (first | assumption | refine List.mem_cons_of_mem _ ?_)) (by assumption) ?_)) | (((try dsimp only); (with_reducible show wpAny _ _ (call (Value.builtin "str.lower") _) _ _ _)); ((try dsimp only); k_here; (with_reducible show wpAny _ _ (call (Value.builtin "str.lower") [Value.str (S [_]) _]) _ _ _); (refine KXw.lower (lower_one (by assumption)) (lower_fits (by assumption)) ?_); intro _ _))); k_steps) | (refine gp_use (by assumption) ?_; (try dsimp only); k_steps)))
      rename Fr _ _ _ _ => F19
      rename News _ _ _ _ => N19
      have eI : T9 < I9 := hI9 _ List.mem_cons_self
      refine append_K F19 N19 (Upd.tail (Nat.ne_of_gt eI) (Upd.head (by
        intro p hp
        rcases List.mem_cons.mp hp with rfl | hp
        · exact hne10 _ hp10
        rcases List.mem_cons.mp hp with rfl | hp
        · exact hne10 _ hm10
        exact hne10 _ hp))) ?_ ?z
      case z =>
        have l1 := hX.length
        have l2 := congrArg List.length eall
        have l3 := congrArg List.length eps'
        simp only [List.length_map, List.nil_append, List.length_append, List.length_cons, pathsOf, List.length_nil] at l1 l2 l3
        rw [sizeLine_eq, List.size_toArray]
        omega
      intro h21 F21 N21
      rw [List.push_toArray] at N21
      clear F19 N19
      (k_steps; repeat' (first | ((refine Hold.out ?_; first | ((with_reducible show wpAny _ _ (compareOp _ _ _) _ _ _); (k_here; (with_reducible rename News _ _ _ _ => zN9); refine in_led zN9 (by repeat (first | assumption | refine List.mem_cons_of_mem _ ?_)) (by assumption) ?_)) | (((try dsimp only); (with_reducible show wpAny _ _ (call (Value.builtin "str.lower") _) _ _ _)); ((try dsimp only); k_here; (with_reducible show wpAny _ _ (call (Value.builtin "str.lower") [Value.str (S [_]) _]) _ _ _); (refine KXw.lower (lower_one (by assumption)) (lower_fits (by assumption)) ?_); intro _ _))); k_steps) | (refine gp_use (by assumption) ?_; (try dsimp only); k_steps)))
      refine Hold.out ?_
      rename Fr _ _ _ _ => F20
      rename News _ _ _ _ => N20
      refine end_turn F20 N20 ((T9, listOf (List.toArray (xs ++ [.str (S (txtFrom [p0, p1, p2, p3] mk ma mb' a.2 0 cs)) t])) (c + 1)) :: (Dp, _) :: (Dm, _) :: rest) ?_ ?_ ⟨⟨?_, trivial⟩, IH _ _ ⟨⟨_, _, rfl, ?_, ?_⟩⟩⟩
      · intro p hp
        repeat (first | exact hp | refine List.mem_cons_of_mem _ ?_)
      · exact inv_off (off_outer hI9) (by intro q9 hq; simp only [List.mem_cons, List.not_mem_nil, or_false] at hq; subst hq; exact Nat.le_refl _)
      · exact List.mem_cons_of_mem _ (List.mem_cons_of_mem _ (List.mem_cons_of_mem _ hP10))
      · rw [List.map_append]
        exact hX.snoc
      · intro z g3
        have g4 := g3
        simp only [List.contains_cons, List.contains_nil, Bool.or_false, Bool.or_eq_false_iff, beq_eq_false_iff_ne, ne_eq] at g4
        simp [g4, kstB]
    case st =>
      intro pre' c' r' t u' items' e13 IH'
      have hc13 : c' < 128 := by
        have h9 : c' ∈ cs := by rw [e13]; simp
        simpa using List.all_eq_true.mp hasc c' h9
      have hi13 : pre'.length < 4 := by
        have h9 := congrArg List.length e13
        simp at h9
        omega
      have hx13 : (txtFrom [p0, p1, p2, p3] mk ma mb' a.2 0 pre').length ≤ 100 := by
        have h9 := txt_len (prs := [p0, p1, p2, p3]) (mk := mk) (path := a.2) hma hmb pre' 0
        omega
      (k_steps; repeat' (first | ((refine Hold.out ?_; first | ((with_reducible show wpAny _ _ (compareOp _ _ _) _ _ _); (k_here; (with_reducible rename News _ _ _ _ => zN9); refine in_led zN9 (by repeat (first | assumption | refine List.mem_cons_of_mem _ ?_)) (by assumption) ?_)) | (((try dsimp only); (with_reducible show wpAny _ _ (call (Value.builtin "str.lower") _) _ _ _)); ((try dsimp only); k_here; (with_reducible show wpAny _ _ (call (Value.builtin "str.lower") [Value.str (S [_]) _]) _ _ _); (refine KXw.lower (lower_one (by assumption)) (lower_fits (by assumption)) ?_); intro _ _))); k_steps) | (refine gp_use (by assumption) ?_; (try dsimp only); k_steps)))
      all_goals (
        refine Hold.out ?_
        rename Fr _ _ _ _ => F20
        rename News _ _ _ _ => N20
        refine end_turn F20 N20 _ ?_ ?_ ⟨trivial, IH' _ ?_ ?_⟩
        · intro p hp
          repeat (first | exact hp | refine List.mem_cons_of_mem _ ?_)
        · exact inv_off hI13 (by intro q9 hq; simp only [List.mem_cons, List.not_mem_nil, or_false] at hq; rcases hq with rfl | rfl <;> simp)
        · first
          | exact ⟨_, by rw [tx1 (by assumption) (by assumption) (by assumption)]; with_unfolding_all rfl⟩
          | exact ⟨_, by rw [tx2 (by assumption) (by assumption) (by assumption)]; with_unfolding_all rfl⟩
          | exact ⟨_, by rw [tx3 (by assumption) (by assumption) (by assumption)]; with_unfolding_all rfl⟩
          | exact ⟨_, by rw [tx4 (by assumption) (by assumption) (by assumption)]; with_unfolding_all rfl⟩
          | exact ⟨_, by rw [tx5 (by assumption) (by assumption)]; with_unfolding_all rfl⟩
          | exact ⟨_, by rw [tx6 (by assumption) (by assumption)]; with_unfolding_all rfl⟩
        · intro z g1 g3
          have g4 := g3
          simp only [List.contains_cons, List.contains_nil, Bool.or_false, Bool.or_eq_false_iff, beq_eq_false_iff_ne, ne_eq] at g4
          simp [g1, g4, kstB])
end
-- A0 (0)
section
open PySem PySem.W PyProof.Rows
def isS (y : List Nat) : Value → Bool
  | .str x _ => x.cps.toList == y
  | _ => false
theorem isS_eq {y : List Nat} {t : Tok} : ∀ {vs : List Value} {xs : List (List Nat)}, StrsAre vs xs → ∀ v ∈ vs, MeetsSeq.EqGives v (.str (S y) t) (isS y v)
  | _, _, .nil, _, h => nomatch h
  | _, _, .cons (x := x) (t := u) hr, v, h => by
    rcases List.mem_cons.mp h with rfl | h
    · have := SeqRoads2.EqGives.str (S x) (S y) u t
      simpa [S, isS] using this
    · exact isS_eq hr v h
theorem isS_get {y : List Nat} : ∀ {vs : List Value} {xs : List (List Nat)}, StrsAre vs xs → ∀ i (h : i < vs.length), isS y vs[i] = (xs.getD i [] == y)
  | _, _, .nil, i, h => absurd h (Nat.not_lt_zero _)
  | _, _, .cons (x := x) _, 0, _ => by simp [isS, S]
  | _, _, .cons hr, i + 1, h => by
    have := isS_get (y := y) hr i (Nat.lt_of_succ_lt_succ h)
    simpa using this
section
variable {prog : Program} {w : World} {A : Around} {E : Value → Shared → Prop} {s : Shared} {h₀ : Heap} {L D : Addr} {news : List (Addr × Obj)}
theorem index_meth {its : Array Value} {n : Nat} {pl : Sem Bool} {Q : Value × List Value → Shared → Prop} (N : News h₀ L s.heap news) (hm : (D, listOf its n) ∈ news) (h : Q (.builtin "list.index", [.ref D]) s) :
    wpAny (model prog w) A (getMethod (.ref D) "index" pl) Q E s := kf_method N hm PySem.F.slot_list_index PySem.F.type_list_index h
theorem index_call {vs : List Value} {xs : List (List Nat)} {n j : Nat} {y : List Nat} {t : Tok} {Q : Value → Shared → Prop} (N : News h₀ L s.heap news) (hm : (D, listOf (List.toArray vs) n) ∈ news) (hX : StrsAre vs xs) (hl : xs.length ≤ 8) (hj : j < xs.length) (hy : xs.getD j [] = y) (hd : ∀ i, i < j → xs.getD i [] ≠ y)
    (h : ∀ t' k, Q (.int (j : Int) t') { s with toks := k }) : wpAny (model prog w) A (call (.builtin "list.index") [.ref D, .str (S y) t]) Q E s := by
  have hlen := hX.length
  refine call_meets PySem.F.slot_list_index ⟨_, (N _ hm).1, rfl⟩ PySem.F.entry_list_index (PySem.F.args_list_index_2 _ _)
    (MeetsSeq.list_index D (List.toArray vs) n (.str (S y) t) (isS y) (fun v hv => isS_eq hX v (by simpa using hv)) j (by simp; omega) (by omega) ?_ ?_) ⟨(N _ hm).1, h _ _⟩
  · have := isS_get (y := y) hX j (by omega)
    simp only [List.getElem_toArray, this, hy, beq_self_eq_true]
  · intro i hi hlt
    have := isS_get (y := y) hX i (by simpa using hi)
    simp only [List.getElem_toArray, this]
    simpa using hd i hlt
end
/-- the neighbours' part -/
def prc (prs : List Int) (j p : Nat) : Int := prs.getD (max j p - 1) 0
def fac (b k : Int) : Int := if k = 1 then 1 + b * b else 1
def addOf (b : Int) (prs : List Int) (p j : Nat) : Int := b ^ (2 * prc prs j p).toNat * fac b (prc prs j p)
def sideOf (b : Int) (prs : List Int) (p j : Nat) : Int := b ^ (prc prs j p).toNat * fac b (prc prs j p)
def ownOf (b : Int) (prs : List Int) (p : Nat) (ns : List Nat) : Int := 1 - b ^ 4 + (ns.map (addOf b prs p)).sum
def sidesOf (b : Int) (prs : List Int) (p : Nat) (ns : List Nat) : List (Int × Int) := ns.map fun (j : Nat) => ((j : Int), sideOf b prs p j)
theorem ownOf_snoc (b : Int) (prs : List Int) (p : Nat) (ns : List Nat) (j : Nat) : ownOf b prs p (ns ++ [j]) = ownOf b prs p ns + addOf b prs p j := by
  simp [ownOf]; omega
theorem sidesOf_snoc (b : Int) (prs : List Int) (p : Nat) (ns : List Nat) (j : Nat) : sidesOf b prs p (ns ++ [j]) = sidesOf b prs p ns ++ [((j : Int), sideOf b prs p j)] := by simp [sidesOf]
theorem enumItems_eq : ∀ (vs : List Value) (a : Nat), enumItems a vs = (vs.zipIdx a).map fun p => (fun (i : Nat) (v : Value) => Itm.pair (fun t => .int (i : Int) t) v) p.2 p.1
  | [], _ => rfl
  | v :: r, a => by rw [enumItems, enumItems_eq r (a + 1), List.zipIdx_cons]; rfl
theorem StrsAre.zipped {g : Nat → List Nat} : ∀ {js : List Nat} {vs : List Value}, StrsAre vs (js.map g) → ∃ all : List (Nat × Tok), vs = all.map (fun a => .str (S (g a.1)) a.2) ∧ all.map (·.1) = js
  | [], _, h => by
    cases h
    exact ⟨[], rfl, rfl⟩
  | j :: js, _, h => by
    rw [List.map_cons] at h
    cases h with
    | cons hr =>
      rename_i t vs
      obtain ⟨all, rfl, e⟩ := StrsAre.zipped hr
      exact ⟨(j, t) :: all, rfl, by rw [List.map_cons, e]⟩
theorem valS_zip {g : Nat → List Nat} : ∀ (all : List (Nat × Tok)) (k : Nat), (all.map fun a => Value.str (S (g a.1)) a.2).map Itm.val = (all.zipIdx k).map fun p => (fun (_ : Nat) (a : Nat × Tok) => Itm.val (.str (S (g a.1)) a.2)) p.2 p.1
  | [], _ => rfl
  | a :: r, k => by
    rw [List.zipIdx_cons, List.map_cons, List.map_cons, List.map_cons, valS_zip r (k + 1)]
section
variable {prog : Program} {w : World} {A : Around} {E : Value → Shared → Prop} {s : Shared} {env : Env} {h₀ : Heap} {body : List Stmt} {Q : Flow → Shared → Prop} {target : Expr}
/-- a loop that leaves the ledger as it was, but for one cell -/
theorem ir_fix {σ : Type} {f : Nat → σ → Itm} {ws : List (Addr × String)} {keep : List (Addr × Obj)} (st : List Str) {C : Addr} {o₀ : Obj} {news : List (Addr × Obj)} {m₀ : Str → Option Value} {all : List σ} (hc : ∃ x, o₀.data = .cell x)
    (step : ∀ (pre : List σ) (a : σ) (r : List σ) (u : Str → Option Value) (o : Obj) (x : Option Value) (items : List Itm), all = pre ++ a :: r → o.data = .cell x →
      (∀ m' o' x', o'.data = .cell x' → (∀ z, st.contains z = false → m' z = m₀ z) → ItemsRest prog w A E h₀ env target body Q s ws keep items m' ((C, o') :: news)) →
      ItemsRest prog w A E h₀ env target body Q s ws keep (f pre.length a :: items) (fun z => if st.contains z then u z else m₀ z) ((C, o) :: news))
    (fin : ∀ (u : Str → Option Value) (o : Obj) (x : Option Value), o.data = .cell x → ItemsRest prog w A E h₀ env target body Q s ws keep [] (fun z => if st.contains z then u z else m₀ z) ((C, o) :: news)) :
    ItemsRest prog w A E h₀ env target body Q s ws keep ((all.zipIdx 0).map fun p => f p.2 p.1) m₀ ((C, o₀) :: news) := by
  refine IR_ind (f := f) (fun _ m nw => (∃ o x, nw = (C, o) :: news ∧ o.data = .cell x) ∧ ∀ z, st.contains z = false → m z = m₀ z) ?_ ?_ [] all m₀ _ rfl ⟨⟨o₀, _, rfl, hc.choose_spec⟩, fun _ _ => rfl⟩
  · rintro pre a r m nw items e ⟨⟨o, x, rfl, hx⟩, h2⟩ IH
    obtain ⟨u, rfl⟩ := frame_form0 h2
    exact step pre a r u o x items e hx fun m' o' x' h3 h4 => IH m' _ ⟨⟨o', x', rfl, h3⟩, h4⟩
  · rintro m nw ⟨⟨o, x, rfl, hx⟩, h2⟩
    obtain ⟨u, rfl⟩ := frame_form0 h2
    exact fin u o x hx
/-- the neighbours' loop -/
theorem ir_sides {ws : List (Addr × String)} {keep base : List (Addr × Obj)} {g : Nat → List Nat} (st : List Str) {Ls : Addr} {m₀ : Str → Option Value} {t₀ : Tok} {n₀ : Nat} {all : List (Nat × Tok)} (Pa : Addr → Prop) (b : Int) (prs : List Int) (p : Nat) (hm : m₀ "own" = some (.int (1 - b ^ 4) t₀))
    (step : ∀ (pre : List (Nat × Tok)) (a : Nat × Tok) (r : List (Nat × Tok)) (u : Str → Option Value) (t : Tok) (ss : List Value) (n : Nat) (tups : List (Addr × Obj)) (items : List Itm), all = pre ++ a :: r → SidesAre tups ss (sidesOf b prs p (pre.map (·.1))) → (∀ q ∈ tups, Pa q.1) →
      (∀ m' T j v t' u' n', j = (a.1 : Int) → v = sideOf b prs p a.1 → Pa T → (∃ t2, m' "own" = some (.int (ownOf b prs p (pre.map (·.1)) + addOf b prs p a.1) t2)) → (∀ z : Str, z ≠ "own" → st.contains z = false → m' z = m₀ z) → ItemsRest prog w A E h₀ env target body Q s ws keep items m' ((Ls, listOf (List.toArray (ss ++ [.ref T])) n') :: (T, tupI j v t' u') :: (tups ++ base))) →
      ItemsRest prog w A E h₀ env target body Q s ws keep (.val (.str (S (g a.1)) a.2) :: items) (kstB (fun z => if st.contains z then u z else m₀ z) [("own", .int (ownOf b prs p (pre.map (·.1))) t)]) ((Ls, listOf (List.toArray ss) n) :: (tups ++ base)))
    (fin : ∀ (u : Str → Option Value) (t : Tok) (ss : List Value) (n : Nat) (tups : List (Addr × Obj)), SidesAre tups ss (sidesOf b prs p (all.map (·.1))) → (∀ q ∈ tups, Pa q.1) → ItemsRest prog w A E h₀ env target body Q s ws keep [] (kstB (fun z => if st.contains z then u z else m₀ z) [("own", .int (ownOf b prs p (all.map (·.1))) t)]) ((Ls, listOf (List.toArray ss) n) :: (tups ++ base))) :
    ItemsRest prog w A E h₀ env target body Q s ws keep ((all.map fun a => Value.str (S (g a.1)) a.2).map Itm.val) m₀ ((Ls, listOf (List.toArray []) n₀) :: base) := by
  rw [valS_zip all 0]
  have form : ∀ {x : Int} {m : Str → Option Value}, (∃ t, m "own" = some (.int x t)) → (∀ z : Str, z ≠ "own" → st.contains z = false → m z = m₀ z) → ∃ (t : Tok) (u : Str → Option Value), m = kstB (fun z => if st.contains z then u z else m₀ z) [("own", .int x t)] := by
    rintro x m ⟨t, h1⟩ h2
    obtain ⟨u, e⟩ := frame_form (ps := [("own", .int x t)]) (st := st) (m₀ := m₀) (m := m) (fun p hp => by rw [List.mem_singleton.mp hp]; exact h1) (fun z h3 h4 => h2 z (h3 _ List.mem_cons_self) h4)
    exact ⟨t, u, e⟩
  refine IR_ind (f := fun _ a => Itm.val (.str (S (g a.1)) a.2)) (fun pre m nw => (∃ ss n tups, nw = (Ls, listOf (List.toArray ss) n) :: (tups ++ base) ∧ SidesAre tups ss (sidesOf b prs p (pre.map (·.1))) ∧ ∀ q ∈ tups, Pa q.1) ∧ (∃ t, m "own" = some (.int (ownOf b prs p (pre.map (·.1))) t)) ∧ ∀ z : Str, z ≠ "own" → st.contains z = false → m z = m₀ z) ?_ ?_ [] all m₀ _ rfl
    ⟨⟨[], n₀, [], rfl, .nil, fun _ h => nomatch h⟩, ⟨t₀, by rw [hm]; simp [ownOf]⟩, fun _ _ _ => rfl⟩
  · rintro pre a r m nw items e ⟨⟨ss, n, tups, rfl, hS, hne⟩, h1, h2⟩ IH
    obtain ⟨t, u, rfl⟩ := form h1 h2
    refine step pre a r u t ss n tups items e hS hne fun m' T j v t' u' n' hj hv hTL h3 h4 => ?_
    subst hj hv
    have hmem : ∀ q ∈ tups, q ∈ (T, tupI (a.1 : Int) (sideOf b prs p a.1) t' u') :: tups := fun q hq => .tail _ hq
    have := IH m' ((Ls, listOf (List.toArray (ss ++ [.ref T])) n') :: (((T, tupI (a.1 : Int) (sideOf b prs p a.1) t' u') :: tups) ++ base)) ⟨⟨_, _, _, rfl, ?_, ?_⟩, ?_, h4⟩
    · exact this
    · rw [List.map_append, List.map_singleton, sidesOf_snoc]
      exact (hS.mono hmem).snoc (.head _)
    · intro q hq
      rcases List.mem_cons.mp hq with rfl | hq
      · exact hTL
      · exact hne q hq
    · rw [List.map_append, List.map_singleton, ownOf_snoc]
      exact h3
  · rintro m nw ⟨⟨ss, n, tups, rfl, hS, hne⟩, h1, h2⟩
    obtain ⟨t, u, rfl⟩ := form h1 h2
    exact fin u t ss n tups hS hne
end
theorem StrsAre.at {vs : List Value} {xs : List (List Nat)} (h : StrsAre vs xs) {pre r : List Value} {v : Value} (e : vs = pre ++ v :: r) : pre.length < xs.length ∧ ∃ t, v = .str (S (xs.getD pre.length [])) t := by
  have hl := h.length
  have h1 : pre.length < vs.length := by rw [e]; simp
  obtain ⟨t, ht⟩ := h.get pre.length h1
  refine ⟨by omega, t, ?_⟩
  rw [e] at ht
  simpa using ht
theorem TupsAre.mono {news more : List (Addr × Obj)} (k : ∀ p ∈ news, p ∈ more) : ∀ {vs : List Value} {ps : List (List Nat × List Nat)}, TupsAre news vs ps → TupsAre more vs ps
  | _, _, .nil => .nil
  | _, _, .cons hm h => .cons (k _ hm) (h.mono k)
theorem News.tl {h₀ h : Heap} {L : Addr} {t : Addr × Obj} {r : List (Addr × Obj)} (N : News h₀ L h (t :: r)) : News h₀ L h r := fun p hp => N p (.tail _ hp)
structure NbOk (nm : List (List Nat)) (ps : List (List Nat × List Nat)) (ns : List Nat) (p : Nat) : Prop where
  gets : gets ps (nm.getD p []) = ns.map fun j => nm.getD j []
  asc : ns.Pairwise (· < ·)
  lt : ∀ j ∈ ns, j < 5 ∧ j ≠ p
  one : 1 ≤ ns.length
  four : ns.length ≤ 4
theorem News.swap {h₀ h : Heap} {L : Addr} {a b : Addr × Obj} {r : List (Addr × Obj)} (N : News h₀ L h (a :: b :: r)) : News h₀ L h (b :: a :: r) := fun p hp => by
  rcases List.mem_cons.mp hp with rfl | hp
  · exact N _ (.tail _ (.head _))
  rcases List.mem_cons.mp hp with rfl | hp
  · exact N _ (.head _)
  · exact N _ (.tail _ (.tail _ hp))
theorem price_item {prog : Program} {w : World} {A : Around} {E : Value → Shared → Prop} {s : Shared} {h₀ : Heap} {L D : Addr} {news : List (Addr × Obj)} {p0 p1 p2 p3 : Int} {v0 v1 v2 v3 tk : Tok} {c p j : Nat} {Q : Value → Shared → Prop} {value slice : Expr} (N : News h₀ L s.heap news) (hm : (D, listOf #[.int p0 v0, .int p1 v1, .int p2 v2, .int p3 v3] c) ∈ news)
    (hv : ∀ q ∈ [p0, p1, p2, p3], q = 1 ∨ q = 2) (hp : p < 5) (hj : j < 5) (hne : j ≠ p) (h1 : ∀ t, prc [p0, p1, p2, p3] j p = 1 → Q (.int 1 t) s) (h2 : ∀ t, prc [p0, p1, p2, p3] j p = 2 → Q (.int 2 t) s)
    (hs : subscripted slice false (.ref D) (.int ((if (p : Int) > (j : Int) then (p : Int) else (j : Int)) - 1) tk) = operate [.ref D, .int ((if (p : Int) > (j : Int) then (p : Int) else (j : Int)) - 1) tk] (getItem (.ref D) (.int ((if (p : Int) > (j : Int) then (p : Int) else (j : Int)) - 1) tk)) := by with_unfolding_all rfl) :
    wpAny (model prog w) A (subscriptTail value slice (.ref D) (.int ((if (p : Int) > (j : Int) then (p : Int) else (j : Int)) - 1) tk)) Q E s := by
  have hPs : IntsAre [.int p0 v0, .int p1 v1, .int p2 v2, .int p3 v3] [p0, p1, p2, p3] := .cons p0 v0 (.cons p1 v1 (.cons p2 v2 (.cons p3 v3 .nil)))
  have e3 : ((if (p : Int) > (j : Int) then (p : Int) else (j : Int)) - 1) = ((max j p - 1 : Nat) : Int) := by split <;> omega
  have hb : max j p - 1 < 4 := by omega
  rw [e3] at hs ⊢
  refine ksa_sub N hm hPs (Int.natCast_nonneg _) (Int.ofNat_lt.mpr hb) (Int.lt_trans (Int.ofNat_lt.mpr hb) (by decide)) ?_ hs
  intro t
  rw [Int.toNat_natCast]
  have hmem : prc [p0, p1, p2, p3] j p = 1 ∨ prc [p0, p1, p2, p3] j p = 2 := by
    refine hv _ ?_
    unfold prc
    have h4 : max j p - 1 < [p0, p1, p2, p3].length := hb
    rw [List.getD_eq_getElem?_getD, List.getElem?_eq_getElem h4, Option.getD_some]
    exact List.getElem_mem h4
  have e2 : [p0, p1, p2, p3].getD (max j p - 1) 0 = prc [p0, p1, p2, p3] j p := rfl
  rw [e2]
  rcases hmem with h | h
  · have := h1 t h; rwa [h]
  · have := h2 t h; rwa [h]
theorem sq_bits {b : Int} (h : b.natAbs ≤ 16) : Builtin.Int.intBits (1 + b * b) ≤ 64 := by
  have h1 : (b * b).natAbs ≤ 16 * 16 := by rw [Int.natAbs_mul]; exact Nat.mul_le_mul h h
  refine PySem.intBits_le_64 ?_ ?_ <;> omega
theorem base_ne {h₀ h : Heap} {L Ls D a b c : Addr} {oL oD oa ob oc : Obj} {news : List (Addr × Obj)} (_N : News h₀ L h ((Ls, oL) :: (D, oD) :: (a, oa) :: (b, ob) :: (c, oc) :: news)) (hD : @Ne Nat D Ls) (l9 : @LT.lt Nat _ a Ls ∧ @LT.lt Nat _ b Ls ∧ @LT.lt Nat _ c Ls ∧ AllLt Ls news) :
    ∀ q ∈ (D, oD) :: (a, oa) :: (b, ob) :: (c, oc) :: news, q.1 ≠ Ls := by
  intro q hq
  rcases List.mem_cons.mp hq with rfl | hq
  · exact hD
  rcases List.mem_cons.mp hq with rfl | hq
  · exact Nat.ne_of_lt l9.1
  rcases List.mem_cons.mp hq with rfl | hq
  · exact Nat.ne_of_lt l9.2.1
  rcases List.mem_cons.mp hq with rfl | hq
  · exact Nat.ne_of_lt l9.2.2.1
  · exact Nat.ne_of_lt (AllLt.at l9.2.2.2 q hq)
theorem side_end {h₀ : Heap} {L : Addr} {s₁ : Shared} {I Ls T : Addr} {oI oL : Obj} {aN aP : Addr × Obj} {j v : Int} {t' u' : Tok} {ss : List Value} {n' : Nat} {tups base : List (Addr × Obj)} {rest : (Str → Option Value) → List (Addr × Obj) → Prop} {h' : Heap} {tk : Nat} {m' : Str → Option Value} (F : Fr h₀ L h' m')
    (N : News h₀ L h' ((T, tupI j v t' u') :: aN :: aP :: (I, oI) :: (Ls, listOf (List.toArray (ss ++ [.ref T])) n') :: (tups ++ base))) (h1 : ∀ q ∈ (Ls, oL) :: base, q.1 < I) (h2 : ∀ q ∈ tups, @LT.lt Nat _ I q.1 ∧ @LT.lt Nat _ Ls q.1) (hT : @LT.lt Nat _ I T)
    (r : rest m' ((Ls, listOf (List.toArray (ss ++ [.ref T])) n') :: (T, tupI j v t' u') :: (tups ++ base))) : UnrEndW h₀ L s₁ [(I, oI)] rest { s₁ with heap := h', toks := tk } := by
  refine end_turn F N _ ?_ ?_ r
  · intro p hp
    rcases List.mem_cons.mp hp with rfl | hp
    · exact .tail _ (.tail _ (.tail _ (.head _)))
    rcases List.mem_cons.mp hp with rfl | hp
    · exact .tail _ (.tail _ (.tail _ (.tail _ (.head _))))
    rcases List.mem_cons.mp hp with rfl | hp
    · exact .head _
    · exact .tail _ (.tail _ (.tail _ (.tail _ (.tail _ hp))))
  · intro p hp q hq
    rw [List.mem_singleton.mp hq]
    rcases List.mem_cons.mp hp with rfl | hp
    · exact Nat.ne_of_lt (h1 (Ls, oL) (.head _))
    rcases List.mem_cons.mp hp with rfl | hp
    · exact Nat.ne_of_gt hT
    rcases List.mem_append.mp hp with hp | hp
    · exact Nat.ne_of_gt (h2 p hp).1
    · exact Nat.ne_of_lt (h1 p (.tail _ hp))
theorem sides_asc {b : Int} {prs : List Int} {p : Nat} {ns : List Nat} (h : ns.Pairwise (· < ·)) : (sidesOf b prs p ns).Pairwise fun x y => x.1 < y.1 := by
  unfold sidesOf
  rw [List.pairwise_map]
  exact h.imp fun hab => by show (_ : Int) < _; omega
theorem sides_len {b : Int} {prs : List Int} {p : Nat} {ns : List Nat} : (sidesOf b prs p ns).length = ns.length := List.length_map _
/-- what is left behind the neighbours' loop: the cell, the sides and the rest -/
theorem behind {h₀ h : Heap} {L Ls C D5 I1 I2 D Tl : Addr} {o5 o o1 o2 oD oT : Obj} {ss : List Value} {n : Nat} {js : List (Int × Int)} {tups news : List (Addr × Obj)} {R : Nat → Addr} {rows : Nat → List Value}
    (N : News h₀ L h ((D5, o5) :: (Ls, listOf (List.toArray ss) n) :: (tups ++ ((D, oD) :: (I1, o1) :: (I2, o2) :: (C, o) :: news)))) (hS : SidesAre tups ss js) (h1 : ∀ q ∈ tups, @LT.lt Nat _ Ls q.1) (l9 : @LT.lt Nat _ I1 Ls ∧ @LT.lt Nat _ I2 Ls ∧ @LT.lt Nat _ C Ls ∧ AllLt Ls news)
    (hC2 : @LT.lt Nat _ C I2) (h12 : @LT.lt Nat _ I2 I1) (hlo : ∀ q ∈ news, @LT.lt Nat _ q.1 C) (hTl : (Tl, oT) ∈ news) (hR : ∀ i, i < 5 → (R i, listOf (List.toArray (rows i)) 0) ∈ news) :
    ∃ rest, News h₀ L h ((C, o) :: rest) ∧ (Ls, listOf (List.toArray ss) n) ∈ rest ∧ SidesAre rest ss js ∧ (Tl, oT) ∈ rest ∧ (∀ i, i < 5 → (R i, listOf (List.toArray (rows i)) 0) ∈ rest) ∧ (∀ q ∈ rest, q.1 ≠ C) ∧ (∀ q ∈ (I1, o1) :: (I2, o2) :: news, q ∈ rest) := by
  refine ⟨(Ls, listOf (List.toArray ss) n) :: (tups ++ ((I1, o1) :: (I2, o2) :: news)), ?_, .head _, hS.mono fun q hq => .tail _ (List.mem_append_left _ hq), .tail _ (List.mem_append_right _ (.tail _ (.tail _ hTl))), fun i hi => .tail _ (List.mem_append_right _ (.tail _ (.tail _ (hR i hi)))), ?_, fun q hq => .tail _ (List.mem_append_right _ hq)⟩
  · intro q hq
    rcases List.mem_cons.mp hq with rfl | hq
    · exact N _ (.tail _ (.tail _ (List.mem_append_right _ (.tail _ (.tail _ (.tail _ (.head _)))))))
    rcases List.mem_cons.mp hq with rfl | hq
    · exact N _ (.tail _ (.head _))
    rcases List.mem_append.mp hq with hq | hq
    · exact N _ (.tail _ (.tail _ (List.mem_append_left _ hq)))
    rcases List.mem_cons.mp hq with rfl | hq
    · exact N _ (.tail _ (.tail _ (List.mem_append_right _ (.tail _ (.head _)))))
    rcases List.mem_cons.mp hq with rfl | hq
    · exact N _ (.tail _ (.tail _ (List.mem_append_right _ (.tail _ (.tail _ (.head _))))))
    · exact N _ (.tail _ (.tail _ (List.mem_append_right _ (.tail _ (.tail _ (.tail _ (.tail _ hq)))))))
  · intro q hq
    rcases List.mem_cons.mp hq with rfl | hq
    · exact Nat.ne_of_gt l9.2.2.1
    rcases List.mem_append.mp hq with hq | hq
    · exact Nat.ne_of_gt (Nat.lt_trans l9.2.2.1 (h1 q hq))
    rcases List.mem_cons.mp hq with rfl | hq
    · exact Nat.ne_of_gt (Nat.lt_trans hC2 h12)
    rcases List.mem_cons.mp hq with rfl | hq
    · exact Nat.ne_of_gt hC2
    · exact Nat.ne_of_lt (hlo q hq)
theorem refs_at {R : Nat → Addr} {pre r : List Value} {v : Value} (e : [Value.ref (R 0), .ref (R 1), .ref (R 2), .ref (R 3), .ref (R 4)] = pre ++ v :: r) : pre.length < 5 ∧ v = .ref (R pre.length) := by
  have h1 : pre.length < 5 := by have := congrArg List.length e; simp at this; omega
  refine ⟨h1, ?_⟩
  have h2 : [Value.ref (R 0), .ref (R 1), .ref (R 2), .ref (R 3), .ref (R 4)][pre.length]? = some v := by rw [e]; simp
  generalize pre.length = k at h1 h2
  match k, h1 with
  | 0, _ => simpa using h2.symm
  | 1, _ => simpa using h2.symm
  | 2, _ => simpa using h2.symm
  | 3, _ => simpa using h2.symm
  | 4, _ => simpa using h2.symm
theorem row_item {prog : Program} {w : World} {A : Around} {E : Value → Shared → Prop} {s : Shared} {h₀ : Heap} {L D : Addr} {news : List (Addr × Obj)} {vs : List Value} {ns : List Int} {n p : Nat} {u : Tok} {Q : Value → Shared → Prop} {value slice : Expr} (N : News h₀ L s.heap news) (hm : (D, listOf vs.toArray n) ∈ news) (hi : IntsAre vs ns) (hp : p < ns.length) (h5 : ns.length ≤ 8) (h : ∀ t, Q (.int (ns.getD p 0) t) s)
    (hs : subscripted slice false (.ref D) (.int (p : Int) u) = operate [.ref D, .int (p : Int) u] (getItem (.ref D) (.int (p : Int) u)) := by with_unfolding_all rfl) :
    wpAny (model prog w) A (subscriptTail value slice (.ref D) (.int (p : Int) u)) Q E s := by
  refine ksa_sub N hm hi (by omega) (by omega) (by omega) ?_ hs
  intro t
  have := h t
  rwa [Int.toNat_natCast]
theorem nat_bits {b : Int} (h : b.natAbs ≤ 2 ^ 40) : Builtin.Int.intBits b ≤ 64 := PySem.intBits_le_64 (by omega) (by omega)
open PySem.Spec PySem.Calls LCg in
theorem compRestP_ind {prog : Program} {w : World} {A : Around} {s : Shared} {h₀ : Heap} {L : Addr} {m : Str → Option Value} {env : Env} {elt : Expr} {x x₂ : Str} {scope : Scope} {cl : List (Str × Addr)} {S : List (Addr × Obj) → Prop} {vs : List Value} {js : List (Int × Int)} {Fin : List Value → List (Addr × Obj) → Prop} {n : Nat} {news : List (Addr × Obj)}
    (hS : SidesAre news vs js) (hn : n = js.length) (J : Nat → List Value → Prop) (h0 : J 0 [])
    (step : ∀ i ys j v t u I oI C oC D m₂ h tk (E' : Value → Shared → Prop), js[i]? = some (j, v) → J i ys → NsObj oC m₂ → m₂ x = some (.int j t) → m₂ x₂ = some (.int v u) → Fr h₀ L h m → News h₀ L h ((I, oI) :: (C, oC) :: (D, lst ys) :: news) → Off3 I C D news → ((@Ne Nat I C) ∧ (@Ne Nat I D) ∧ (@Ne Nat C D)) →
      wpAny (model prog w) A (eval elt (compEnvC scope cl C env)) (CompEnd h₀ L m { s with heap := h, toks := tk } I oI C oC D (lst ys) S (fun y news' => news' = news ∧ J (i + 1) (ys ++ [y]))) E' { s with heap := h, toks := tk })
    (fin : ∀ ys, J n ys → Fin ys news) : LCp.CompRestP prog w A h₀ L m env elt x x₂ scope cl s S (fun i v => (List.toArray vs)[i]? = some v) Fin n 0 [] news := by
  have hget : ∀ {vs : List Value} {js : List (Int × Int)}, SidesAre news vs js → ∀ {i : Nat} {v : Value}, vs[i]? = some v → ∃ T j k t u, v = .ref T ∧ (T, tupI j k t u) ∈ news ∧ js[i]? = some (j, k) := by
    intro vs js h
    induction h with
    | nil => intro i v e; simp at e
    | cons hm _ ih =>
      intro i v e
      cases i with
      | zero => exact ⟨_, _, _, _, _, by simpa using e.symm, hm, rfl⟩
      | succ i => exact ih (i := i) (by simpa using e)
  have H : ∀ k i ys, i + k = n → J i ys → LCp.CompRestP prog w A h₀ L m env elt x x₂ scope cl s S (fun i v => (List.toArray vs)[i]? = some v) Fin k i ys news := by
    intro k
    induction k with
    | zero => intro i ys hi hJ; exact LCp.CompRestP.zero (fin ys (by rw [Nat.add_zero] at hi; exact hi ▸ hJ))
    | succ k ih =>
      intro i ys hi hJ
      refine LCp.CompRestP.succ fun v hP => ?_
      obtain ⟨T, j, kk, t, u, rfl, hm, hj⟩ := hget hS (i := i) (v := v) (by simpa using hP)
      refine ⟨T, _, _, _, _, rfl, hm, rfl, rfl, ?_⟩
      intro I oI C oC D m₂ h tk E' hC hx hx2 F N off ne
      refine wpAny_mono (step i ys j kk t u I oI C oC D m₂ h tk E' hj hJ hC hx hx2 F N off ne) (fun y s' hy => ?_) fun _ _ e => e
      obtain ⟨h', tk', news', e, F', N', o', hS', rfl, hJ'⟩ := hy
      exact ⟨h', tk', _, e, F', N', o', hS', ih (i + 1) _ (by omega) hJ'⟩
  exact H n 0 [] (Nat.zero_add n) h0
theorem ints_snoc {x : Int} {t : Tok} : ∀ {vs : List Value} {ns : List Int}, IntsAre vs ns → IntsAre (vs ++ [.int x t]) (ns ++ [x])
  | _, _, .nil => .cons x t .nil
  | _, _, .cons y u h => .cons y u (ints_snoc h)
def sideProds (r : List Int) (js : List (Int × Int)) : List Int := js.map fun q => r.getD q.1.toNat 0 * q.2
theorem sideProds_take {r : List Int} {js : List (Int × Int)} {i : Nat} {j : Nat} {v : Int} (h : js[i]? = some ((j : Int), v)) : sideProds r (js.take (i + 1)) = sideProds r (js.take i) ++ [r.getD j 0 * v] := by
  unfold sideProds
  rw [List.take_add_one, h, List.map_append]
  simp
theorem sides_get {b : Int} {prs : List Int} {p : Nat} {ns : List Nat} {i : Nat} {j v : Int} (h : (sidesOf b prs p ns)[i]? = some (j, v)) : ∃ n ∈ ns, j = (n : Int) := by
  unfold sidesOf at h
  rw [List.getElem?_map] at h
  cases e : ns[i]? with
  | none => rw [e] at h; simp at h
  | some n =>
    rw [e] at h
    simp at h
    exact ⟨n, List.mem_of_getElem? e, h.1.symm⟩
theorem sideProds_sides {r : List Int} {b : Int} {prs : List Int} {p : Nat} {ns : List Nat} : sideProds r (sidesOf b prs p ns) = ns.map fun j => r.getD j 0 * sideOf b prs p j := by
  simp [sideProds, sidesOf, Function.comp_def]
theorem sub_cons2 {x y z : Addr × Obj} {rest : List (Addr × Obj)} {p : Addr × Obj} (h : p ∈ [x, y] ++ (z :: rest)) : p ∈ x :: y :: z :: rest := h
theorem off_pair {I C : Addr} {oI oE o o1 : Obj} {rest : List (Addr × Obj)} (h : ∀ q ∈ (C, o1) :: rest, q.1 < I) : ∀ p ∈ (C, o) :: rest, ∀ q ∈ [((I + 1 : Nat), oE), (I, oI)], p.1 ≠ q.1 := by
  intro p hp q hq
  have h1 : @LT.lt Nat _ p.1 I := by
    rcases List.mem_cons.mp hp with rfl | hp
    · exact h (C, o1) (.head _)
    · exact h p (.tail _ hp)
  rcases List.mem_cons.mp hq with rfl | hq
  · exact Nat.ne_of_lt (Nat.lt_succ_of_lt h1)
  · rw [List.mem_singleton.mp hq]; exact Nat.ne_of_lt h1
end
-- A1 (13)
section
open PySem PySem.W PyProof.Rows
local macro_rules | `(tactic| walk_at "exec For Tuple Call cons nil") => `(tactic| refine Hold.mk ?_)
local macro_rules | `(tactic| walk_at "exec For Name Call cons nil") => `(tactic| refine Hold.mk ?_)
local macro_rules | `(tactic| walk_at "call type:enumerate") => `(tactic| refine Hold.mk ?_)
local macro_rules | `(tactic| walk_at "binaryOp Pow int int") => `(tactic| (refine Hold.mk ?_))
local macro_rules | `(tactic| walk_at "call ref") => `(tactic| (refine Hold.mk ?_))
local macro_rules | `(tactic| walk_at "pyIter ref") => `(tactic| (refine Hold.mk ?_))
local macro_rules | `(tactic| walk_at "UnrEndW") => `(tactic| (refine Hold.mk ?_))
local macro_rules | `(tactic| walk_at "call builtin:list.index") => `(tactic| (refine Hold.mk ?_))
local macro_rules | `(tactic| walk_at "subscriptTail Name BinOp ref int") => `(tactic| (refine Hold.mk ?_))
local macro_rules | `(tactic| walk_at "binaryOp Mult int int") => `(tactic| (refine Hold.mk ?_))
local macro_rules | `(tactic| walk_at "compareOp NotEq ref ref") => `(tactic| (refine Hold.mk ?_))
local macro_rules | `(tactic| k_all) => `(tactic| assumption)
local macro_rules | `(tactic| walk_at "subscriptTail Name Name ref int") => `(tactic| (refine Hold.mk ?_))
local macro_rules | `(tactic| walk_at "SrcLP") => `(tactic| (refine Hold.mk ?_))
theorem agree_use {w : World} {mean : ExcName → Option Value} {mg mb : Str → Option Value} {Nm H Pr Tl : Addr} {R : Nat → Addr} {rows : Nat → List Value} {M : Nat → List Int} {news : List (Addr × Obj)} {c1 c2 nT : Nat} {p0 p1 p2 p3 b : Int} {u0 u1 u2 u3 u4 v0 v1 v2 v3 tb tw : Tok} {n0 n1 n2 n3 n4 : List Nat} {wd : Str} {ps : List (List Nat × List Nat)} {nb : Nat → List Nat} {dp un : Nat} {gd : Option (List Code)} {cn : Str} {cs' : Scope} {a : Addr} {ccd : Value} {cl : List (Str × Addr)} {outer : List Env} {A₀ : Around} {base h₀ : Heap} {L : Addr} {m : Str → Option Value} {s : Shared} {Q E : Value → Shared → Prop}
   (hNm : (Nm, listOf #[.str (S n0) u0, .str (S n1) u1, .str (S n2) u2, .str (S n3) u3, .str (S n4) u4] c1) ∈ news) (hPr : (Pr, listOf #[.int p0 v0, .int p1 v1, .int p2 v2, .int p3 v3] c2) ∈ news) (hT : TableAt w news H ps) (hTl : (Tl, listOf (List.toArray [.ref (R 0), .ref (R 1), .ref (R 2), .ref (R 3), .ref (R 4)]) nT) ∈ news)
   (hDist : ∀ i j, i < j → j < 5 → [n0, n1, n2, n3, n4].getD i [] ≠ [n0, n1, n2, n3, n4].getD j []) (hPl : ∀ x ∈ [n0, n1, n2, n3, n4], Plain x) (hPp : ∀ q ∈ ps, Plain q.1) (hps : ps.length ≤ 100) (hb : b.natAbs ≤ 16) (hPv : ∀ q ∈ [p0, p1, p2, p3], q = 1 ∨ q = 2) (hNb : ∀ p, p < 5 → NbOk [n0, n1, n2, n3, n4] ps (nb p) p)
   (hR : ∀ i, i < 5 → (R i, listOf (List.toArray (rows i)) 0) ∈ news ∧ IntsAre (rows i) (M i) ∧ (M i).length = 5)
   (hId : ∀ p si, p < 5 → si < 5 → (M si).getD p 0 * ownOf b [p0, p1, p2, p3] p (nb p) - ((nb p).map fun j => (M si).getD j 0 * sideOf b [p0, p1, p2, p3] p j).sum = if si = p then 1 - b ^ 4 else 0)
   (hw1 : (apL (1 - b ^ 4).natAbs).length ≤ 16) (hw2 : (1 - b ^ 4).natAbs < 2 ^ 62) (hwd : wd = apS (1 - b ^ 4).natAbs) (hMb : ∀ i j, i < 5 → j < 5 → ((M i).getD j 0).natAbs ≤ 2 ^ 40) :
   Pre w mean mg mb cs' A₀ outer base h₀ L m news s.heap dp un 60 480 ((∀ (h' : Heap) (tk' : Nat), Fr h₀ L h' m → News h₀ L h' news → Q (.bool true) { s with heap := h', toks := tk' }) →
    wpAny (model PW w) (ktrTop dp un gd cn cs' L a ccd cl outer) (call (.ref 278) [.ref Nm, .ref H, .ref Pr, .ref Tl, .int b tb, .str wd tw]) Q E s) := by
  intro B F X N T hk hd hu hret
  refine wpAny_call ?_
  k_with_none
  k_dflt (refine' code_defC ?k1 ?k2 ?k3 ?k4 ?k5 ?kA ?kF ?kK ?k6 ?k7 ?k8 ?k9 ?kB ?kD ?_ ?c2 ?c3 ?c4; (case kA => exact rfl); (case kF => exact rfl); (case kK => assumption); (case k1 => k_asm); (case k2 => k_asm); (case k3 => k_asm); (case k4 => k_asm); (case k5 => k_asm); (case k6 => k_is); (case k7 => k_is); (case k8 => ktr_room); (case k9 => exact BindsTo.of_eq rfl); (case kB => exact rfl); (case kD => decide +kernel); (case c2 => exact rfl); (case c3 => exact rfl); (case c4 => exact rfl); k_whole; intro g' L' h' tk' cells' FG' F' N' Y' B' X' T' l1; (try k_lt l1); k_cells Y'; (try simp only [List.cons_append, List.nil_append] at N'); (try dsimp only); (try k_lift B'); (try k_fold))
  have hXs : StrsAre [.str (S n0) u0, .str (S n1) u1, .str (S n2) u2, .str (S n3) u3, .str (S n4) u4] [n0, n1, n2, n3, n4] := .cons (.cons (.cons (.cons (.cons .nil))))
  have hlo : ∀ p ∈ news, p.1 < L' := l1
  have hAll0 : AllLt L' news := allLt_of hlo
  (k_steps; repeat' (first | ((refine Hold.out ?_; first | (((try dsimp only); (with_reducible show wpAny _ _ (binaryOp Operator.Mult (Value.int _ _) (Value.int _ _)) _ _ _)); ((try dsimp only); (first | (with_reducible refine mul_int ?_) | (refine mul_int ?_ (PySem.IntMulOk.of_right (sq_bits (by assumption)))) | (refine mul_int ?_ (PySem.IntMulOk.of_left (nat_bits (by assumption))))); (try dsimp only))) | ((with_reducible show wpAny _ _ (subscriptTail _ _ _ _) _ _ _); (k_here; (with_reducible show wpAny _ _ (subscriptTail _ _ (Value.ref _) (Value.int (_ - _) _)) _ _ _); (with_reducible rename News _ _ _ _ => zN9); k_dflt (refine price_item zN9 (by k_mem) (by assumption) (by assumption) (by assumption) (by assumption) ?_ ?_) <;> intro _ _)) | (((try dsimp only); (with_reducible show wpAny _ _ (call (Value.builtin "list.index") _) _ _ _)); ((try dsimp only); k_here; (with_reducible show wpAny _ _ (call (Value.builtin "list.index") _) _ _ _); (with_reducible rename News _ _ _ _ => zN9); k_dflt (refine index_call zN9 (by k_mem) (by assumption) (Nat.le_of_ble_eq_true rfl) (by assumption) (by exact rfl) (by assumption) ?_); intro _ _)) | ((with_reducible show wpAny _ _ (binaryOp Operator.Pow (Value.int _ _) (Value.int _ _)) _ _ _); (k_here; k_dflt (refine pow_int_small (by first | assumption | decide) (by first | assumption | decide) (Nat.lt_of_le_of_lt (by assumption) (by decide)) ?_)))); k_steps) | (refine gp_use (by assumption) ?_; (try dsimp only); k_steps)))
  refine Hold.out ?_
  rename Fr _ _ _ _ => F9
  refine gen_post1 ?_
  intro _ _
  refine For_turns F9 ?_
  (k_steps; repeat' (first | ((refine Hold.out ?_; first | (((try dsimp only); (with_reducible show wpAny _ _ (binaryOp Operator.Mult (Value.int _ _) (Value.int _ _)) _ _ _)); ((try dsimp only); (first | (with_reducible refine mul_int ?_) | (refine mul_int ?_ (PySem.IntMulOk.of_right (sq_bits (by assumption)))) | (refine mul_int ?_ (PySem.IntMulOk.of_left (nat_bits (by assumption))))); (try dsimp only))) | ((with_reducible show wpAny _ _ (subscriptTail _ _ _ _) _ _ _); (k_here; (with_reducible show wpAny _ _ (subscriptTail _ _ (Value.ref _) (Value.int (_ - _) _)) _ _ _); (with_reducible rename News _ _ _ _ => zN9); k_dflt (refine price_item zN9 (by k_mem) (by assumption) (by assumption) (by assumption) (by assumption) ?_ ?_) <;> intro _ _)) | (((try dsimp only); (with_reducible show wpAny _ _ (call (Value.builtin "list.index") _) _ _ _)); ((try dsimp only); k_here; (with_reducible show wpAny _ _ (call (Value.builtin "list.index") _) _ _ _); (with_reducible rename News _ _ _ _ => zN9); k_dflt (refine index_call zN9 (by k_mem) (by assumption) (Nat.le_of_ble_eq_true rfl) (by assumption) (by exact rfl) (by assumption) ?_); intro _ _)) | ((with_reducible show wpAny _ _ (binaryOp Operator.Pow (Value.int _ _) (Value.int _ _)) _ _ _); (k_here; k_dflt (refine pow_int_small (by first | assumption | decide) (by first | assumption | decide) (Nat.lt_of_le_of_lt (by assumption) (by decide)) ?_)))); k_steps) | (refine gp_use (by assumption) ?_; (try dsimp only); k_steps)))
  refine Hold.out ?_
  rename News _ _ _ _ => N9
  refine ktu_enum (lo := listOf #[.str (S n0) u0, .str (S n1) u1, .str (S n2) u2, .str (S n3) u3, .str (S n4) u4] c1) (vs := [.str (S n0) u0, .str (S n1) u1, .str (S n2) u2, .str (S n3) u3, .str (S n4) u4]) (by rfl) F9 N9 (.tail _ hNm) (by rfl) (by rfl) (enumItems_eq _ 0) ?_
  intro I9 hI9
  have hC9 : @LT.lt Nat _ (L' + 1) I9 := hI9 _ List.mem_cons_self
  refine ir_fix (f := fun (i : Nat) (v : Value) => Itm.pair (fun t => .int (i : Int) t) v) ["place", "name", "own", "sides", "other", "near", "price", "factor", "start", "row", "left"] ⟨_, by assumption⟩ ?_ ?_
  · intro pre v r u o x items e9 ho IH
    obtain ⟨hp5, tv, rfl⟩ := hXs.at e9
    have hnb := hNb pre.length hp5
    have hpl := plain_getD hPl pre.length
    generalize hgp : pre.length = p at *
    have hp55 : p < 5 := hp5
    obtain ⟨dx, HL, tkd, nd, ts, nH, hH, hdx, hHL, hTu⟩ := hT
    have htl : ts.length ≤ 100 := by rw [hTu.length]; exact hps
    (k_steps; repeat' (first | ((refine Hold.out ?_; first | (((try dsimp only); (with_reducible show wpAny _ _ (binaryOp Operator.Mult (Value.int _ _) (Value.int _ _)) _ _ _)); ((try dsimp only); (first | (with_reducible refine mul_int ?_) | (refine mul_int ?_ (PySem.IntMulOk.of_right (sq_bits (by assumption)))) | (refine mul_int ?_ (PySem.IntMulOk.of_left (nat_bits (by assumption))))); (try dsimp only))) | ((with_reducible show wpAny _ _ (subscriptTail _ _ _ _) _ _ _); (k_here; (with_reducible show wpAny _ _ (subscriptTail _ _ (Value.ref _) (Value.int (_ - _) _)) _ _ _); (with_reducible rename News _ _ _ _ => zN9); k_dflt (refine price_item zN9 (by k_mem) (by assumption) (by assumption) (by assumption) (by assumption) ?_ ?_) <;> intro _ _)) | (((try dsimp only); (with_reducible show wpAny _ _ (call (Value.builtin "list.index") _) _ _ _)); ((try dsimp only); k_here; (with_reducible show wpAny _ _ (call (Value.builtin "list.index") _) _ _ _); (with_reducible rename News _ _ _ _ => zN9); k_dflt (refine index_call zN9 (by k_mem) (by assumption) (Nat.le_of_ble_eq_true rfl) (by assumption) (by exact rfl) (by assumption) ?_); intro _ _)) | ((with_reducible show wpAny _ _ (binaryOp Operator.Pow (Value.int _ _) (Value.int _ _)) _ _ _); (k_here; k_dflt (refine pow_int_small (by first | assumption | decide) (by first | assumption | decide) (Nat.lt_of_le_of_lt (by assumption) (by decide)) ?_)))); k_steps) | (refine gp_use (by assumption) ?_; (try dsimp only); k_steps)))
    refine Hold.out ?_
    rename Fr _ _ _ _ => F10
    rename News _ _ _ _ => N10
    obtain ⟨Ls, hLs⟩ := News.second N10
    subst hLs
    rename I9 + 1 < Ls ∧ _ => l9
    have N11 := News.more2 (News.tl N10) (.tail _ (.tail _ (.tail _ (.tail _ hH)))) (.tail _ (.tail _ (.tail _ (.tail _ hdx))))
    clear N10
    refine gen_post1 ?_
    intro _ _
    refine For_turns F10 ?_
    (k_steps; repeat' (first | ((refine Hold.out ?_; first | (((try dsimp only); (with_reducible show wpAny _ _ (binaryOp Operator.Mult (Value.int _ _) (Value.int _ _)) _ _ _)); ((try dsimp only); (first | (with_reducible refine mul_int ?_) | (refine mul_int ?_ (PySem.IntMulOk.of_right (sq_bits (by assumption)))) | (refine mul_int ?_ (PySem.IntMulOk.of_left (nat_bits (by assumption))))); (try dsimp only))) | ((with_reducible show wpAny _ _ (subscriptTail _ _ _ _) _ _ _); (k_here; (with_reducible show wpAny _ _ (subscriptTail _ _ (Value.ref _) (Value.int (_ - _) _)) _ _ _); (with_reducible rename News _ _ _ _ => zN9); k_dflt (refine price_item zN9 (by k_mem) (by assumption) (by assumption) (by assumption) (by assumption) ?_ ?_) <;> intro _ _)) | (((try dsimp only); (with_reducible show wpAny _ _ (call (Value.builtin "list.index") _) _ _ _)); ((try dsimp only); k_here; (with_reducible show wpAny _ _ (call (Value.builtin "list.index") _) _ _ _); (with_reducible rename News _ _ _ _ => zN9); k_dflt (refine index_call zN9 (by k_mem) (by assumption) (Nat.le_of_ble_eq_true rfl) (by assumption) (by exact rfl) (by assumption) ?_); intro _ _)) | ((with_reducible show wpAny _ _ (binaryOp Operator.Pow (Value.int _ _) (Value.int _ _)) _ _ _); (k_here; k_dflt (refine pow_int_small (by first | assumption | decide) (by first | assumption | decide) (Nat.lt_of_le_of_lt (by assumption) (by decide)) ?_)))); k_steps) | (refine gp_use (by assumption) ?_; (try dsimp only); k_steps)))
    refine Hold.out ?_
    rename Fr _ _ _ _ => F12
    rename News _ _ _ _ => N12
    refine getall_use (news := (Ls, listOf #[] 0) :: (I9 + 1, _) :: (I9, _) :: (L' + 1, o) :: news) (.tail _ (.tail _ (.tail _ (.tail _ hH)))) (.tail _ (.tail _ (.tail _ (.tail _ hdx)))) (.tail _ (.tail _ (.tail _ (.tail _ hHL)))) (hTu.mono fun q hq => .tail _ (.tail _ (.tail _ (.tail _ hq)))) htl hpl hPp (by k_asm) F12 (by k_asm) (News.tl (News.tl N12)) (by k_asm) (by first | exact rfl | assumption) (by ktr_room) (by ktr_units) ?_
    intro D h13 tk13 ys c13 F13 N13 hys
    rw [hnb.gets] at hys
    obtain ⟨all, rfl, eall⟩ := hys.zipped
    have hall : ∀ q ∈ all, q.1 < 5 ∧ q.1 ≠ p := fun q hq => hnb.lt q.1 (eall ▸ List.mem_map_of_mem hq)
    have N14 := News.swap N13
    clear N13 N12
    have hDL : D ≠ Ls := by
      intro e
      subst e
      have e1 := (N14 _ (.head _)).1
      rw [(N14 _ (.tail _ (.head _))).1] at e1
      have e2 := congrArg (fun x => match x.map Obj.data with | some (.seq its _) => its.size | _ => 0) e1
      have h9 := congrArg List.length eall
      have h8 := hnb.one
      rw [List.length_map] at h9
      simp [W.listOf] at e2
      rw [e2] at h9
      simp at h9
      omega
    have hbase := base_ne N14 hDL l9
    (k_steps; repeat' (first | ((refine Hold.out ?_; first | (((try dsimp only); (with_reducible show wpAny _ _ (binaryOp Operator.Mult (Value.int _ _) (Value.int _ _)) _ _ _)); ((try dsimp only); (first | (with_reducible refine mul_int ?_) | (refine mul_int ?_ (PySem.IntMulOk.of_right (sq_bits (by assumption)))) | (refine mul_int ?_ (PySem.IntMulOk.of_left (nat_bits (by assumption))))); (try dsimp only))) | ((with_reducible show wpAny _ _ (subscriptTail _ _ _ _) _ _ _); (k_here; (with_reducible show wpAny _ _ (subscriptTail _ _ (Value.ref _) (Value.int (_ - _) _)) _ _ _); (with_reducible rename News _ _ _ _ => zN9); k_dflt (refine price_item zN9 (by k_mem) (by assumption) (by assumption) (by assumption) (by assumption) ?_ ?_) <;> intro _ _)) | (((try dsimp only); (with_reducible show wpAny _ _ (call (Value.builtin "list.index") _) _ _ _)); ((try dsimp only); k_here; (with_reducible show wpAny _ _ (call (Value.builtin "list.index") _) _ _ _); (with_reducible rename News _ _ _ _ => zN9); k_dflt (refine index_call zN9 (by k_mem) (by assumption) (Nat.le_of_ble_eq_true rfl) (by assumption) (by exact rfl) (by assumption) ?_); intro _ _)) | ((with_reducible show wpAny _ _ (binaryOp Operator.Pow (Value.int _ _) (Value.int _ _)) _ _ _); (k_here; k_dflt (refine pow_int_small (by first | assumption | decide) (by first | assumption | decide) (Nat.lt_of_le_of_lt (by assumption) (by decide)) ?_)))); k_steps) | (refine gp_use (by assumption) ?_; (try dsimp only); k_steps)))
    refine Hold.out ?_
    refine iter_listTurns (lo := listOf (List.toArray (all.map fun a => Value.str (S ([n0, n1, n2, n3, n4].getD a.1 [])) a.2)) c13) (vs := all.map fun a => Value.str (S ([n0, n1, n2, n3, n4].getD a.1 [])) a.2) (by rfl) F13 N14 (.tail _ (.head _)) (by rfl) (by rfl) ?_
    intro I14 hI14
    refine ir_sides (g := fun j => [n0, n1, n2, n3, n4].getD j []) ["other", "near", "price", "factor"] (fun T => I14 < T ∧ Ls < T) b [p0, p1, p2, p3] p (by with_unfolding_all rfl) ?_ ?_
    · intro pre2 a2 r2 uu2 tt2 ss2 nS tups items2 e2 hS2 hP2 IH2
      obtain ⟨hj1, hj2⟩ := hall a2 (e2 ▸ List.mem_append_right _ (.head _))
      have hj5 : a2.1 < [n0, n1, n2, n3, n4].length := hj1
      have hdj : ∀ i, i < a2.1 → [n0, n1, n2, n3, n4].getD i [] ≠ [n0, n1, n2, n3, n4].getD a2.1 [] := fun i hi => hDist i a2.1 hi hj1
      have hL2 : ss2.length < 4 := by
        have h7 := hS2.length
        have h8 := congrArg List.length e2
        have h9 := congrArg List.length eall
        have h6 := hnb.four
        simp only [sidesOf, List.length_map, List.length_append, List.length_cons] at h7 h8 h9
        omega
      refine ItemsRest.val (fun h' tk' F15 => ?_)
      ktu_objs
      rename News _ _ _ _ => N15
      have N16 := News.more2 N15 (.tail _ (.tail _ (List.mem_append_right _ (.tail _ (.tail _ (.tail _ (.tail _ hNm))))))) (.tail _ (.tail _ (List.mem_append_right _ (.tail _ (.tail _ (.tail _ (.tail _ hPr)))))))
      clear N15
      (k_steps; repeat' (first | ((refine Hold.out ?_; first | (((try dsimp only); (with_reducible show wpAny _ _ (binaryOp Operator.Mult (Value.int _ _) (Value.int _ _)) _ _ _)); ((try dsimp only); (first | (with_reducible refine mul_int ?_) | (refine mul_int ?_ (PySem.IntMulOk.of_right (sq_bits (by assumption)))) | (refine mul_int ?_ (PySem.IntMulOk.of_left (nat_bits (by assumption))))); (try dsimp only))) | ((with_reducible show wpAny _ _ (subscriptTail _ _ _ _) _ _ _); (k_here; (with_reducible show wpAny _ _ (subscriptTail _ _ (Value.ref _) (Value.int (_ - _) _)) _ _ _); (with_reducible rename News _ _ _ _ => zN9); k_dflt (refine price_item zN9 (by k_mem) (by assumption) (by assumption) (by assumption) (by assumption) ?_ ?_) <;> intro _ _)) | (((try dsimp only); (with_reducible show wpAny _ _ (call (Value.builtin "list.index") _) _ _ _)); ((try dsimp only); k_here; (with_reducible show wpAny _ _ (call (Value.builtin "list.index") _) _ _ _); (with_reducible rename News _ _ _ _ => zN9); k_dflt (refine index_call zN9 (by k_mem) (by assumption) (Nat.le_of_ble_eq_true rfl) (by assumption) (by exact rfl) (by assumption) ?_); intro _ _)) | ((with_reducible show wpAny _ _ (binaryOp Operator.Pow (Value.int _ _) (Value.int _ _)) _ _ _); (k_here; k_dflt (refine pow_int_small (by first | assumption | decide) (by first | assumption | decide) (Nat.lt_of_le_of_lt (by assumption) (by decide)) ?_)))); k_steps) | (refine gp_use (by assumption) ?_; (try dsimp only); k_steps)))
      all_goals (
        rename Fr _ _ _ _ => F19
        rename News _ _ _ _ => N19
        rename Nm < _ ∧ _ => lT
        refine append_K F19 N19 (Upd.tail (Nat.ne_of_gt lT.2.2.2.1) (Upd.tail (hbase (Nm, _) (.tail _ (.tail _ (.tail _ (.tail _ hNm))))) (Upd.tail (hbase (Pr, _) (.tail _ (.tail _ (.tail _ (.tail _ hPr))))) (Upd.tail (Nat.ne_of_gt (hI14 _ (.head _))) (Upd.head (by
          intro q hq
          rcases List.mem_append.mp hq with hq | hq
          · exact Nat.ne_of_gt (hP2 q hq).2
          · exact hbase q hq)))))) ?_ (by rw [sizeLine_eq, List.size_toArray]; omega)
        intro h21 F21 N21
        rw [List.push_toArray] at N21
        clear F19 N19
        (k_steps; repeat' (first | ((refine Hold.out ?_; first | (((try dsimp only); (with_reducible show wpAny _ _ (binaryOp Operator.Mult (Value.int _ _) (Value.int _ _)) _ _ _)); ((try dsimp only); (first | (with_reducible refine mul_int ?_) | (refine mul_int ?_ (PySem.IntMulOk.of_right (sq_bits (by assumption)))) | (refine mul_int ?_ (PySem.IntMulOk.of_left (nat_bits (by assumption))))); (try dsimp only))) | ((with_reducible show wpAny _ _ (subscriptTail _ _ _ _) _ _ _); (k_here; (with_reducible show wpAny _ _ (subscriptTail _ _ (Value.ref _) (Value.int (_ - _) _)) _ _ _); (with_reducible rename News _ _ _ _ => zN9); k_dflt (refine price_item zN9 (by k_mem) (by assumption) (by assumption) (by assumption) (by assumption) ?_ ?_) <;> intro _ _)) | (((try dsimp only); (with_reducible show wpAny _ _ (call (Value.builtin "list.index") _) _ _ _)); ((try dsimp only); k_here; (with_reducible show wpAny _ _ (call (Value.builtin "list.index") _) _ _ _); (with_reducible rename News _ _ _ _ => zN9); k_dflt (refine index_call zN9 (by k_mem) (by assumption) (Nat.le_of_ble_eq_true rfl) (by assumption) (by exact rfl) (by assumption) ?_); intro _ _)) | ((with_reducible show wpAny _ _ (binaryOp Operator.Pow (Value.int _ _) (Value.int _ _)) _ _ _); (k_here; k_dflt (refine pow_int_small (by first | assumption | decide) (by first | assumption | decide) (Nat.lt_of_le_of_lt (by assumption) (by decide)) ?_)))); k_steps) | (refine gp_use (by assumption) ?_; (try dsimp only); k_steps)))
        refine Hold.out ?_
        rename Fr _ _ _ _ => F20
        rename News _ _ _ _ => N20
        refine side_end F20 N20 hI14 hP2 lT.2.2.1 ⟨⟨.tail _ (.tail _ (List.mem_append_right _ (.head _))), trivial⟩, IH2 _ _ _ _ _ _ _ rfl ?_ ⟨lT.2.2.1, lT.2.2.2.1⟩ ?_ ?_⟩
        · first | (unfold sideOf; rw [‹prc _ _ _ = 1›]; rfl) | (unfold sideOf; rw [‹prc _ _ _ = 2›]; rfl)
        · first | exact ⟨_, by unfold addOf; rw [‹prc _ _ _ = 1›]; with_unfolding_all rfl⟩ | exact ⟨_, by unfold addOf; rw [‹prc _ _ _ = 2›]; with_unfolding_all rfl⟩
        · intro z g1 g3
          have g4 := g3
          simp only [List.contains_cons, List.contains_nil, Bool.or_false, Bool.or_eq_false_iff, beq_eq_false_iff_ne, ne_eq] at g4
          simp [g1, g4, kstB])
    · intro uu3 tt3 ss3 nS3 tups3 hS3 hP3
      rw [eall] at hS3
      rw [eall]
      (k_steps; repeat' (first | ((refine Hold.out ?_; first | (((try dsimp only); (with_reducible show wpAny _ _ (binaryOp Operator.Mult (Value.int _ _) (Value.int _ _)) _ _ _)); ((try dsimp only); (first | (with_reducible refine mul_int ?_) | (refine mul_int ?_ (PySem.IntMulOk.of_right (sq_bits (by assumption)))) | (refine mul_int ?_ (PySem.IntMulOk.of_left (nat_bits (by assumption))))); (try dsimp only))) | ((with_reducible show wpAny _ _ (subscriptTail _ _ _ _) _ _ _); (k_here; (with_reducible show wpAny _ _ (subscriptTail _ _ (Value.ref _) (Value.int (_ - _) _)) _ _ _); (with_reducible rename News _ _ _ _ => zN9); k_dflt (refine price_item zN9 (by k_mem) (by assumption) (by assumption) (by assumption) (by assumption) ?_ ?_) <;> intro _ _)) | (((try dsimp only); (with_reducible show wpAny _ _ (call (Value.builtin "list.index") _) _ _ _)); ((try dsimp only); k_here; (with_reducible show wpAny _ _ (call (Value.builtin "list.index") _) _ _ _); (with_reducible rename News _ _ _ _ => zN9); k_dflt (refine index_call zN9 (by k_mem) (by assumption) (Nat.le_of_ble_eq_true rfl) (by assumption) (by exact rfl) (by assumption) ?_); intro _ _)) | ((with_reducible show wpAny _ _ (binaryOp Operator.Pow (Value.int _ _) (Value.int _ _)) _ _ _); (k_here; k_dflt (refine pow_int_small (by first | assumption | decide) (by first | assumption | decide) (Nat.lt_of_le_of_lt (by assumption) (by decide)) ?_)))); k_steps) | (refine gp_use (by assumption) ?_; (try dsimp only); k_steps)))
      rename Fr _ _ _ _ => F30
      rename News _ _ _ _ => N30
      refine sorted_sides (by k_asm) F30 N30 (.head _) (hS3.mono fun q hq => .tail _ (List.mem_append_left _ hq)) (sides_asc hnb.asc) (by rw [sides_len]; exact hnb.one) (by rw [sides_len]; exact hnb.four) ?_
      intro D5 e5 h5 F31 N31
      clear F30 N30
      (k_steps; repeat' (first | ((refine Hold.out ?_; first | (((try dsimp only); (with_reducible show wpAny _ _ (binaryOp Operator.Mult (Value.int _ _) (Value.int _ _)) _ _ _)); ((try dsimp only); (first | (with_reducible refine mul_int ?_) | (refine mul_int ?_ (PySem.IntMulOk.of_right (sq_bits (by assumption)))) | (refine mul_int ?_ (PySem.IntMulOk.of_left (nat_bits (by assumption))))); (try dsimp only))) | ((with_reducible show wpAny _ _ (subscriptTail _ _ _ _) _ _ _); (k_here; (with_reducible show wpAny _ _ (subscriptTail _ _ (Value.ref _) (Value.int (_ - _) _)) _ _ _); (with_reducible rename News _ _ _ _ => zN9); k_dflt (refine price_item zN9 (by k_mem) (by assumption) (by assumption) (by assumption) (by assumption) ?_ ?_) <;> intro _ _)) | (((try dsimp only); (with_reducible show wpAny _ _ (call (Value.builtin "list.index") _) _ _ _)); ((try dsimp only); k_here; (with_reducible show wpAny _ _ (call (Value.builtin "list.index") _) _ _ _); (with_reducible rename News _ _ _ _ => zN9); k_dflt (refine index_call zN9 (by k_mem) (by assumption) (Nat.le_of_ble_eq_true rfl) (by assumption) (by exact rfl) (by assumption) ?_); intro _ _)) | ((with_reducible show wpAny _ _ (binaryOp Operator.Pow (Value.int _ _) (Value.int _ _)) _ _ _); (k_here; k_dflt (refine pow_int_small (by first | assumption | decide) (by first | assumption | decide) (Nat.lt_of_le_of_lt (by assumption) (by decide)) ?_)))); k_steps) | (refine gp_use (by assumption) ?_; (try dsimp only); k_steps)))
      refine Hold.out ?_
      refine sides_ne N31 (.tail _ (.head _)) (.head _) (hS3.mono fun q hq => .tail _ (.tail _ (List.mem_append_left _ hq))) (by rw [sides_len]; exact hnb.four) (by ktr_units) ?_
      obtain ⟨rest, N33, hLs, hSr, hTlr, hRr, hCr, hback⟩ := behind N31 hS3 (fun q hq => (hP3 q hq).2) l9 (hI9 _ (.head _)) (Nat.lt_succ_self _) (fun q hq => Nat.lt_succ_of_lt (hlo q hq)) hTl (fun i hi => (hR i hi).1)
      clear N31
      (k_steps; repeat' (first | ((refine Hold.out ?_; first | (((try dsimp only); (with_reducible show wpAny _ _ (binaryOp Operator.Mult (Value.int _ _) (Value.int _ _)) _ _ _)); ((try dsimp only); (first | (with_reducible refine mul_int ?_) | (refine mul_int ?_ (PySem.IntMulOk.of_right (sq_bits (by assumption)))) | (refine mul_int ?_ (PySem.IntMulOk.of_left (nat_bits (by assumption))))); (try dsimp only))) | ((with_reducible show wpAny _ _ (subscriptTail _ _ _ _) _ _ _); (k_here; (with_reducible show wpAny _ _ (subscriptTail _ _ (Value.ref _) (Value.int (_ - _) _)) _ _ _); (with_reducible rename News _ _ _ _ => zN9); k_dflt (refine price_item zN9 (by k_mem) (by assumption) (by assumption) (by assumption) (by assumption) ?_ ?_) <;> intro _ _)) | (((try dsimp only); (with_reducible show wpAny _ _ (call (Value.builtin "list.index") _) _ _ _)); ((try dsimp only); k_here; (with_reducible show wpAny _ _ (call (Value.builtin "list.index") _) _ _ _); (with_reducible rename News _ _ _ _ => zN9); k_dflt (refine index_call zN9 (by k_mem) (by assumption) (Nat.le_of_ble_eq_true rfl) (by assumption) (by exact rfl) (by assumption) ?_); intro _ _)) | ((with_reducible show wpAny _ _ (binaryOp Operator.Pow (Value.int _ _) (Value.int _ _)) _ _ _); (k_here; k_dflt (refine pow_int_small (by first | assumption | decide) (by first | assumption | decide) (Nat.lt_of_le_of_lt (by assumption) (by decide)) ?_)))); k_steps) | (refine gp_use (by assumption) ?_; (try dsimp only); k_steps)))
      refine Hold.out ?_
      rename Fr _ _ _ _ => F33
      refine gen_post1 ?_
      intro _ _
      refine For_turns F33 ?_
      (k_steps; repeat' (first | ((refine Hold.out ?_; first | (((try dsimp only); (with_reducible show wpAny _ _ (binaryOp Operator.Mult (Value.int _ _) (Value.int _ _)) _ _ _)); ((try dsimp only); (first | (with_reducible refine mul_int ?_) | (refine mul_int ?_ (PySem.IntMulOk.of_right (sq_bits (by assumption)))) | (refine mul_int ?_ (PySem.IntMulOk.of_left (nat_bits (by assumption))))); (try dsimp only))) | ((with_reducible show wpAny _ _ (subscriptTail _ _ _ _) _ _ _); (k_here; (with_reducible show wpAny _ _ (subscriptTail _ _ (Value.ref _) (Value.int (_ - _) _)) _ _ _); (with_reducible rename News _ _ _ _ => zN9); k_dflt (refine price_item zN9 (by k_mem) (by assumption) (by assumption) (by assumption) (by assumption) ?_ ?_) <;> intro _ _)) | (((try dsimp only); (with_reducible show wpAny _ _ (call (Value.builtin "list.index") _) _ _ _)); ((try dsimp only); k_here; (with_reducible show wpAny _ _ (call (Value.builtin "list.index") _) _ _ _); (with_reducible rename News _ _ _ _ => zN9); k_dflt (refine index_call zN9 (by k_mem) (by assumption) (Nat.le_of_ble_eq_true rfl) (by assumption) (by exact rfl) (by assumption) ?_); intro _ _)) | ((with_reducible show wpAny _ _ (binaryOp Operator.Pow (Value.int _ _) (Value.int _ _)) _ _ _); (k_here; k_dflt (refine pow_int_small (by first | assumption | decide) (by first | assumption | decide) (Nat.lt_of_le_of_lt (by assumption) (by decide)) ?_)))); k_steps) | (refine gp_use (by assumption) ?_; (try dsimp only); k_steps)))
      refine Hold.out ?_
      rename Fr _ _ _ _ => F34
      rename News _ _ _ _ => N34
      refine ktu_enum (lo := listOf (List.toArray [.ref (R 0), .ref (R 1), .ref (R 2), .ref (R 3), .ref (R 4)]) nT) (vs := [.ref (R 0), .ref (R 1), .ref (R 2), .ref (R 3), .ref (R 4)]) (by rfl) F34 N34 (.tail _ hTlr) (by rfl) (by rfl) (enumItems_eq _ 0) ?_
      intro I35 hI35
      have hCI : @LT.lt Nat _ (L' + 1) I35 := hI35 (L' + 1, o) (.head _)
      refine ir_fix (f := fun (i : Nat) (v : Value) => Itm.pair (fun t => .int (i : Int) t) v) ["start", "row", "left"] ⟨_, ho⟩ ?_ ?_
      · intro pre3 v3' r3 uu4 o3 x3 items3 e3 ho3 IH3
        obtain ⟨hs5, rfl⟩ := refs_at e3
        generalize pre3.length = si at *
        (k_steps; repeat' (first | ((refine Hold.out ?_; first | (((try dsimp only); (with_reducible show wpAny _ _ (binaryOp Operator.Mult (Value.int _ _) (Value.int _ _)) _ _ _)); ((try dsimp only); (first | (with_reducible refine mul_int ?_) | (refine mul_int ?_ (PySem.IntMulOk.of_right (sq_bits (by assumption)))) | (refine mul_int ?_ (PySem.IntMulOk.of_left (nat_bits (by assumption))))); (try dsimp only))) | ((with_reducible show wpAny _ _ (subscriptTail _ _ _ _) _ _ _); (k_here; (with_reducible show wpAny _ _ (subscriptTail _ _ (Value.ref _) (Value.int (_ - _) _)) _ _ _); (with_reducible rename News _ _ _ _ => zN9); k_dflt (refine price_item zN9 (by k_mem) (by assumption) (by assumption) (by assumption) (by assumption) ?_ ?_) <;> intro _ _)) | (((try dsimp only); (with_reducible show wpAny _ _ (call (Value.builtin "list.index") _) _ _ _)); ((try dsimp only); k_here; (with_reducible show wpAny _ _ (call (Value.builtin "list.index") _) _ _ _); (with_reducible rename News _ _ _ _ => zN9); k_dflt (refine index_call zN9 (by k_mem) (by assumption) (Nat.le_of_ble_eq_true rfl) (by assumption) (by exact rfl) (by assumption) ?_); intro _ _)) | ((with_reducible show wpAny _ _ (binaryOp Operator.Pow (Value.int _ _) (Value.int _ _)) _ _ _); (k_here; k_dflt (refine pow_int_small (by first | assumption | decide) (by first | assumption | decide) (Nat.lt_of_le_of_lt (by assumption) (by decide)) ?_)))); k_steps) | (refine gp_use (by assumption) ?_; (try dsimp only); k_steps)))
        refine Hold.out ?_
        rename News _ _ _ _ => N36
        have hmb := hMb si p hs5 hp55
        refine row_item N36 (.tail _ (.tail _ (.tail _ (hRr si hs5)))) (hR si hs5).2.1 (by rw [(hR si hs5).2.2]; exact hp55) (by rw [(hR si hs5).2.2]; decide) ?_
        intro tr
        (k_steps; repeat' (first | ((refine Hold.out ?_; first | (((try dsimp only); (with_reducible show wpAny _ _ (binaryOp Operator.Mult (Value.int _ _) (Value.int _ _)) _ _ _)); ((try dsimp only); (first | (with_reducible refine mul_int ?_) | (refine mul_int ?_ (PySem.IntMulOk.of_right (sq_bits (by assumption)))) | (refine mul_int ?_ (PySem.IntMulOk.of_left (nat_bits (by assumption))))); (try dsimp only))) | ((with_reducible show wpAny _ _ (subscriptTail _ _ _ _) _ _ _); (k_here; (with_reducible show wpAny _ _ (subscriptTail _ _ (Value.ref _) (Value.int (_ - _) _)) _ _ _); (with_reducible rename News _ _ _ _ => zN9); k_dflt (refine price_item zN9 (by k_mem) (by assumption) (by assumption) (by assumption) (by assumption) ?_ ?_) <;> intro _ _)) | (((try dsimp only); (with_reducible show wpAny _ _ (call (Value.builtin "list.index") _) _ _ _)); ((try dsimp only); k_here; (with_reducible show wpAny _ _ (call (Value.builtin "list.index") _) _ _ _); (with_reducible rename News _ _ _ _ => zN9); k_dflt (refine index_call zN9 (by k_mem) (by assumption) (Nat.le_of_ble_eq_true rfl) (by assumption) (by exact rfl) (by assumption) ?_); intro _ _)) | ((with_reducible show wpAny _ _ (binaryOp Operator.Pow (Value.int _ _) (Value.int _ _)) _ _ _); (k_here; k_dflt (refine pow_int_small (by first | assumption | decide) (by first | assumption | decide) (Nat.lt_of_le_of_lt (by assumption) (by decide)) ?_)))); k_steps) | (refine gp_use (by assumption) ?_; (try dsimp only); k_steps)))
        refine Hold.out ?_
        rename Fr _ _ _ _ => F37
        rename News _ _ _ _ => N37
        have hl37 : ss3.length = (nb p).length := by rw [hSr.length, sides_len]
        refine LCp.SrcLP.ledger (by rfl) F37 N37 (.tail _ (.tail _ (.tail _ hLs))) (by rw [sizeLine_eq, List.size_toArray]; have := hnb.four; omega) ?_
        intro g38
        refine compRestP_ind (js := sidesOf b [p0, p1, p2, p3] p (nb p)) (hSr.mono fun q hq => .tail _ (.tail _ (.tail _ hq))) (by rw [List.size_toArray, hl37, sides_len]) (fun i ys => IntsAre ys (sideProds (M si) ((sidesOf b [p0, p1, p2, p3] p (nb p)).take i))) .nil ?_ ?_
        · intro i ys j v t u I oI C oC D5 m₂ h tk E' hj hJ hC hx hx2 F' N' off ne
          obtain ⟨jn, hjn, rfl⟩ := sides_get hj
          have hjn5 := (hnb.lt jn hjn).1
          have hmb2 := hMb si jn hs5 hjn5
          have hpr := sideProds_take (r := M si) hj
          clear hmb
          (k_steps; repeat' (first | ((refine Hold.out ?_; first | (((try dsimp only); (with_reducible show wpAny _ _ (binaryOp Operator.Mult (Value.int _ _) (Value.int _ _)) _ _ _)); ((try dsimp only); (first | (with_reducible refine mul_int ?_) | (refine mul_int ?_ (PySem.IntMulOk.of_right (sq_bits (by assumption)))) | (refine mul_int ?_ (PySem.IntMulOk.of_left (nat_bits (by assumption))))); (try dsimp only))) | ((with_reducible show wpAny _ _ (subscriptTail _ _ _ _) _ _ _); (k_here; (with_reducible show wpAny _ _ (subscriptTail _ _ (Value.ref _) (Value.int (_ - _) _)) _ _ _); (with_reducible rename News _ _ _ _ => zN9); k_dflt (refine price_item zN9 (by k_mem) (by assumption) (by assumption) (by assumption) (by assumption) ?_ ?_) <;> intro _ _)) | (((try dsimp only); (with_reducible show wpAny _ _ (call (Value.builtin "list.index") _) _ _ _)); ((try dsimp only); k_here; (with_reducible show wpAny _ _ (call (Value.builtin "list.index") _) _ _ _); (with_reducible rename News _ _ _ _ => zN9); k_dflt (refine index_call zN9 (by k_mem) (by assumption) (Nat.le_of_ble_eq_true rfl) (by assumption) (by exact rfl) (by assumption) ?_); intro _ _)) | ((with_reducible show wpAny _ _ (binaryOp Operator.Pow (Value.int _ _) (Value.int _ _)) _ _ _); (k_here; k_dflt (refine pow_int_small (by first | assumption | decide) (by first | assumption | decide) (Nat.lt_of_le_of_lt (by assumption) (by decide)) ?_)))); k_steps) | (refine gp_use (by assumption) ?_; (try dsimp only); k_steps)))
          refine Hold.out ?_
          rename News _ _ _ _ => N39
          refine row_item N39 (.tail _ (.tail _ (.tail _ (.tail _ (.tail _ (.tail _ (hRr si hs5))))))) (hR si hs5).2.1 (by rw [(hR si hs5).2.2]; exact hjn5) (by rw [(hR si hs5).2.2]; decide) ?_
          intro tr2
          (k_steps; repeat' (first | ((refine Hold.out ?_; first | (((try dsimp only); (with_reducible show wpAny _ _ (binaryOp Operator.Mult (Value.int _ _) (Value.int _ _)) _ _ _)); ((try dsimp only); (first | (with_reducible refine mul_int ?_) | (refine mul_int ?_ (PySem.IntMulOk.of_right (sq_bits (by assumption)))) | (refine mul_int ?_ (PySem.IntMulOk.of_left (nat_bits (by assumption))))); (try dsimp only))) | ((with_reducible show wpAny _ _ (subscriptTail _ _ _ _) _ _ _); (k_here; (with_reducible show wpAny _ _ (subscriptTail _ _ (Value.ref _) (Value.int (_ - _) _)) _ _ _); (with_reducible rename News _ _ _ _ => zN9); k_dflt (refine price_item zN9 (by k_mem) (by assumption) (by assumption) (by assumption) (by assumption) ?_ ?_) <;> intro _ _)) | (((try dsimp only); (with_reducible show wpAny _ _ (call (Value.builtin "list.index") _) _ _ _)); ((try dsimp only); k_here; (with_reducible show wpAny _ _ (call (Value.builtin "list.index") _) _ _ _); (with_reducible rename News _ _ _ _ => zN9); k_dflt (refine index_call zN9 (by k_mem) (by assumption) (Nat.le_of_ble_eq_true rfl) (by assumption) (by exact rfl) (by assumption) ?_); intro _ _)) | ((with_reducible show wpAny _ _ (binaryOp Operator.Pow (Value.int _ _) (Value.int _ _)) _ _ _); (k_here; k_dflt (refine pow_int_small (by first | assumption | decide) (by first | assumption | decide) (Nat.lt_of_le_of_lt (by assumption) (by decide)) ?_)))); k_steps) | (refine gp_use (by assumption) ?_; (try dsimp only); k_steps)))
          rename Fr _ _ _ _ => F40
          rename News _ _ _ _ => N40
          refine LCg.CompEnd.intro F40 N40 _ (by (intro q hq; exact hq)) (by assumption) (.inr ⟨_, .tail _ (.tail _ (.tail _ hLs)), rfl, _, rfl⟩) ⟨rfl, ?_⟩
          rw [hpr]
          exact ints_snoc hJ
        · intro ys hy
          rw [List.size_toArray, hl37, ← sides_len (b := b) (prs := [p0, p1, p2, p3]) (p := p), List.take_length] at hy
          (k_steps; repeat' (first | ((refine Hold.out ?_; first | (((try dsimp only); (with_reducible show wpAny _ _ (binaryOp Operator.Mult (Value.int _ _) (Value.int _ _)) _ _ _)); ((try dsimp only); (first | (with_reducible refine mul_int ?_) | (refine mul_int ?_ (PySem.IntMulOk.of_right (sq_bits (by assumption)))) | (refine mul_int ?_ (PySem.IntMulOk.of_left (nat_bits (by assumption))))); (try dsimp only))) | ((with_reducible show wpAny _ _ (subscriptTail _ _ _ _) _ _ _); (k_here; (with_reducible show wpAny _ _ (subscriptTail _ _ (Value.ref _) (Value.int (_ - _) _)) _ _ _); (with_reducible rename News _ _ _ _ => zN9); k_dflt (refine price_item zN9 (by k_mem) (by assumption) (by assumption) (by assumption) (by assumption) ?_ ?_) <;> intro _ _)) | (((try dsimp only); (with_reducible show wpAny _ _ (call (Value.builtin "list.index") _) _ _ _)); ((try dsimp only); k_here; (with_reducible show wpAny _ _ (call (Value.builtin "list.index") _) _ _ _); (with_reducible rename News _ _ _ _ => zN9); k_dflt (refine index_call zN9 (by k_mem) (by assumption) (Nat.le_of_ble_eq_true rfl) (by assumption) (by exact rfl) (by assumption) ?_); intro _ _)) | ((with_reducible show wpAny _ _ (binaryOp Operator.Pow (Value.int _ _) (Value.int _ _)) _ _ _); (k_here; k_dflt (refine pow_int_small (by first | assumption | decide) (by first | assumption | decide) (Nat.lt_of_le_of_lt (by assumption) (by decide)) ?_)))); k_steps) | (refine gp_use (by assumption) ?_; (try dsimp only); k_steps)))
          refine Hold.out ?_
          rw [sideProds_sides, hId p si hp55 hs5]
          rename Fr _ _ _ _ => F41
          rename News _ _ _ _ => N41
          by_cases hsp : si = p
          · rw [if_pos hsp]
            subst hsp
            refine lawword_use hw1 hw2 (by k_asm) F41 (by k_asm) N41 (by k_asm) (by first | exact rfl | assumption) (by ktr_room) (by ktr_units) ?_
            intro t42 h42 tk42 F42 N42
            rw [← hwd]
            clear F41 N41
            (k_steps; repeat' (first | ((refine Hold.out ?_; first | (((try dsimp only); (with_reducible show wpAny _ _ (binaryOp Operator.Mult (Value.int _ _) (Value.int _ _)) _ _ _)); ((try dsimp only); (first | (with_reducible refine mul_int ?_) | (refine mul_int ?_ (PySem.IntMulOk.of_right (sq_bits (by assumption)))) | (refine mul_int ?_ (PySem.IntMulOk.of_left (nat_bits (by assumption))))); (try dsimp only))) | ((with_reducible show wpAny _ _ (subscriptTail _ _ _ _) _ _ _); (k_here; (with_reducible show wpAny _ _ (subscriptTail _ _ (Value.ref _) (Value.int (_ - _) _)) _ _ _); (with_reducible rename News _ _ _ _ => zN9); k_dflt (refine price_item zN9 (by k_mem) (by assumption) (by assumption) (by assumption) (by assumption) ?_ ?_) <;> intro _ _)) | (((try dsimp only); (with_reducible show wpAny _ _ (call (Value.builtin "list.index") _) _ _ _)); ((try dsimp only); k_here; (with_reducible show wpAny _ _ (call (Value.builtin "list.index") _) _ _ _); (with_reducible rename News _ _ _ _ => zN9); k_dflt (refine index_call zN9 (by k_mem) (by assumption) (Nat.le_of_ble_eq_true rfl) (by assumption) (by exact rfl) (by assumption) ?_); intro _ _)) | ((with_reducible show wpAny _ _ (binaryOp Operator.Pow (Value.int _ _) (Value.int _ _)) _ _ _); (k_here; k_dflt (refine pow_int_small (by first | assumption | decide) (by first | assumption | decide) (Nat.lt_of_le_of_lt (by assumption) (by decide)) ?_)))); k_steps) | (refine gp_use (by assumption) ?_; (try dsimp only); k_steps)))
            all_goals first
              | (exfalso; rename (_ != _) = true => h9; rw [bne_self_eq_false] at h9; exact Bool.false_ne_true h9)
              | (exfalso; omega)
              | (refine Hold.out ?_
                 rename Fr _ _ _ _ => F44
                 rename News _ _ _ _ => N44
                 rename Obj.data _ = Data.cell (some _) => hd44
                 refine end_turn F44 N44 ((L' + 1, _) :: rest) ?_ ?_ ⟨⟨.tail _ hTlr, trivial⟩, IH3 _ _ _ hd44 ?_⟩
                 · intro q hq
                   exact .tail _ hq
                 · exact off_pair hI35
                 · intro z g3
                   have g4 := g3
                   simp only [List.contains_cons, List.contains_nil, Bool.or_false, Bool.or_eq_false_iff, beq_eq_false_iff_ne, ne_eq] at g4
                   simp [g4, kstB])
          · rw [if_neg hsp]
            refine lawword_use (by rw [show (0 : Int).natAbs = 0 from rfl, apL_zero]; decide) (by decide) (by k_asm) F41 (by k_asm) N41 (by k_asm) (by first | exact rfl | assumption) (by ktr_room) (by ktr_units) ?_
            intro t42 h42 tk42 F42 N42
            rw [show apS (0 : Int).natAbs = Str.ofString "" from by unfold apS; rw [show (0 : Int).natAbs = 0 from rfl, apL_zero]; rfl]
            have hspI : ¬ ((si : Int) = (p : Int)) := fun e => hsp (by omega)
            clear F41 N41
            (k_steps; repeat' (first | ((refine Hold.out ?_; first | (((try dsimp only); (with_reducible show wpAny _ _ (binaryOp Operator.Mult (Value.int _ _) (Value.int _ _)) _ _ _)); ((try dsimp only); (first | (with_reducible refine mul_int ?_) | (refine mul_int ?_ (PySem.IntMulOk.of_right (sq_bits (by assumption)))) | (refine mul_int ?_ (PySem.IntMulOk.of_left (nat_bits (by assumption))))); (try dsimp only))) | ((with_reducible show wpAny _ _ (subscriptTail _ _ _ _) _ _ _); (k_here; (with_reducible show wpAny _ _ (subscriptTail _ _ (Value.ref _) (Value.int (_ - _) _)) _ _ _); (with_reducible rename News _ _ _ _ => zN9); k_dflt (refine price_item zN9 (by k_mem) (by assumption) (by assumption) (by assumption) (by assumption) ?_ ?_) <;> intro _ _)) | (((try dsimp only); (with_reducible show wpAny _ _ (call (Value.builtin "list.index") _) _ _ _)); ((try dsimp only); k_here; (with_reducible show wpAny _ _ (call (Value.builtin "list.index") _) _ _ _); (with_reducible rename News _ _ _ _ => zN9); k_dflt (refine index_call zN9 (by k_mem) (by assumption) (Nat.le_of_ble_eq_true rfl) (by assumption) (by exact rfl) (by assumption) ?_); intro _ _)) | ((with_reducible show wpAny _ _ (binaryOp Operator.Pow (Value.int _ _) (Value.int _ _)) _ _ _); (k_here; k_dflt (refine pow_int_small (by first | assumption | decide) (by first | assumption | decide) (Nat.lt_of_le_of_lt (by assumption) (by decide)) ?_)))); k_steps) | (refine gp_use (by assumption) ?_; (try dsimp only); k_steps)))
            all_goals first
              | (exfalso; rename (_ != _) = true => h9; rw [bne_self_eq_false] at h9; exact Bool.false_ne_true h9)
              | (exfalso; omega)
              | (refine Hold.out ?_
                 rename Fr _ _ _ _ => F44
                 rename News _ _ _ _ => N44
                 rename Obj.data _ = Data.cell (some _) => hd44
                 refine end_turn F44 N44 ((L' + 1, _) :: rest) ?_ ?_ ⟨⟨.tail _ hTlr, trivial⟩, IH3 _ _ _ hd44 ?_⟩
                 · intro q hq
                   exact .tail _ hq
                 · exact off_pair hI35
                 · intro z g3
                   have g4 := g3
                   simp only [List.contains_cons, List.contains_nil, Bool.or_false, Bool.or_eq_false_iff, beq_eq_false_iff_ne, ne_eq] at g4
                   simp [g4, kstB])
      · intro uu4 o3 x3 ho3
        (k_steps; repeat' (first | ((refine Hold.out ?_; first | (((try dsimp only); (with_reducible show wpAny _ _ (binaryOp Operator.Mult (Value.int _ _) (Value.int _ _)) _ _ _)); ((try dsimp only); (first | (with_reducible refine mul_int ?_) | (refine mul_int ?_ (PySem.IntMulOk.of_right (sq_bits (by assumption)))) | (refine mul_int ?_ (PySem.IntMulOk.of_left (nat_bits (by assumption))))); (try dsimp only))) | ((with_reducible show wpAny _ _ (subscriptTail _ _ _ _) _ _ _); (k_here; (with_reducible show wpAny _ _ (subscriptTail _ _ (Value.ref _) (Value.int (_ - _) _)) _ _ _); (with_reducible rename News _ _ _ _ => zN9); k_dflt (refine price_item zN9 (by k_mem) (by assumption) (by assumption) (by assumption) (by assumption) ?_ ?_) <;> intro _ _)) | (((try dsimp only); (with_reducible show wpAny _ _ (call (Value.builtin "list.index") _) _ _ _)); ((try dsimp only); k_here; (with_reducible show wpAny _ _ (call (Value.builtin "list.index") _) _ _ _); (with_reducible rename News _ _ _ _ => zN9); k_dflt (refine index_call zN9 (by k_mem) (by assumption) (Nat.le_of_ble_eq_true rfl) (by assumption) (by exact rfl) (by assumption) ?_); intro _ _)) | ((with_reducible show wpAny _ _ (binaryOp Operator.Pow (Value.int _ _) (Value.int _ _)) _ _ _); (k_here; k_dflt (refine pow_int_small (by first | assumption | decide) (by first | assumption | decide) (Nat.lt_of_le_of_lt (by assumption) (by decide)) ?_)))); k_steps) | (refine gp_use (by assumption) ?_; (try dsimp only); k_steps)))
        refine Hold.out ?_
        rename Fr _ _ _ _ => F43
        rename News _ _ _ _ => N43
        refine end_turn F43 N43 ((L' + 1, o3) :: news) ?_ ?_ ⟨⟨.tail _ hNm, trivial⟩, IH _ _ _ ho3 ?_⟩
        · intro q hq
          rcases List.mem_append.mp hq with hq | hq
          · refine .tail _ (hback q ?_)
            rcases List.mem_cons.mp hq with rfl | hq
            · exact .head _
            · rw [List.mem_singleton.mp hq]; exact .tail _ (.head _)
          rcases List.mem_cons.mp hq with rfl | hq
          · exact .head _
          · exact .tail _ (hback q (.tail _ (.tail _ hq)))
        · exact off_pair hI9
        · intro z g3
          have g4 := g3
          simp only [List.contains_cons, List.contains_nil, Bool.or_false, Bool.or_eq_false_iff, beq_eq_false_iff_ne, ne_eq] at g4
          simp [g4, kstB]
  · intro u o x ho
    (k_steps; repeat' (first | ((refine Hold.out ?_; first | (((try dsimp only); (with_reducible show wpAny _ _ (binaryOp Operator.Mult (Value.int _ _) (Value.int _ _)) _ _ _)); ((try dsimp only); (first | (with_reducible refine mul_int ?_) | (refine mul_int ?_ (PySem.IntMulOk.of_right (sq_bits (by assumption)))) | (refine mul_int ?_ (PySem.IntMulOk.of_left (nat_bits (by assumption))))); (try dsimp only))) | ((with_reducible show wpAny _ _ (subscriptTail _ _ _ _) _ _ _); (k_here; (with_reducible show wpAny _ _ (subscriptTail _ _ (Value.ref _) (Value.int (_ - _) _)) _ _ _); (with_reducible rename News _ _ _ _ => zN9); k_dflt (refine price_item zN9 (by k_mem) (by assumption) (by assumption) (by assumption) (by assumption) ?_ ?_) <;> intro _ _)) | (((try dsimp only); (with_reducible show wpAny _ _ (call (Value.builtin "list.index") _) _ _ _)); ((try dsimp only); k_here; (with_reducible show wpAny _ _ (call (Value.builtin "list.index") _) _ _ _); (with_reducible rename News _ _ _ _ => zN9); k_dflt (refine index_call zN9 (by k_mem) (by assumption) (Nat.le_of_ble_eq_true rfl) (by assumption) (by exact rfl) (by assumption) ?_); intro _ _)) | ((with_reducible show wpAny _ _ (binaryOp Operator.Pow (Value.int _ _) (Value.int _ _)) _ _ _); (k_here; k_dflt (refine pow_int_small (by first | assumption | decide) (by first | assumption | decide) (Nat.lt_of_le_of_lt (by assumption) (by decide)) ?_)))); k_steps) | (refine gp_use (by assumption) ?_; (try dsimp only); k_steps)))
    rename Fr h₀ _ _ _ => F50
    rename News h₀ _ _ _ => N50
    exact hret _ _ F50 (News.tl N50)
end
-- E1 (0)
section
open PySem PySem.W PyProof.Rows
open PySem.Spec PySem.Calls LCg
/-- the end of a turn of a list over an enumeration -/
def EEnd (h₀ : Heap) (L : Addr) (m : Str → Option Value) (s : Shared) (led : List (Addr × Obj)) (J : Value → Prop) (y : Value) (s' : Shared) : Prop :=
  ∃ h' tk', s' = { s with heap := h', toks := tk' } ∧ Fr h₀ L h' m ∧ News h₀ L h' led ∧ J y
def SrcEn (prog : Program) (w : World) (A : Around) (env : Env) (ex : Expr) (scope : Scope) (cl : List (Str × Addr)) (RR : Value → Addr → Result → Shared → Prop) (E : Value → Shared → Prop) (xv : Value) (s₁ : Shared) : Prop :=
  wpAny (model prog w) A (pyIter xv) (fun it s₂ => wpAny (model prog w) A (newList []) (fun acc s₃ => wpAny (model prog w) A (newFunctionEnv scope env.globals cl [] env.qual none .none (some env)) (fun cenv s₄ =>
    codeAny (model prog w) A (.compStart ex 0 it acc { cenv with scope := relabel scope env }) (RR acc cenv.locals) s₄) E s₃) E s₂) E s₁
section
variable {prog : Program} {w : World} {A : Around} {E : Value → Shared → Prop} {s : Shared} {h₀ : Heap} {L : Addr} {m : Str → Option Value} {env : Env} {elt iter : Expr} {a b : Str} {pa pb tp : Pos} {kk : Nat} {scope : Scope} {cl : List (Str × Addr)} {pos : Pos} {Q : Value → Shared → Prop}
theorem enum_comp (hclos : closureFor scope env = pure cl) (hkind : scope.kind = .function) (hnames : ∀ y ∈ scope.names, y.2 = .local → scope.names.lookup y.1 = some .local)
    (h : wpAny (model prog w) A (eval iter env) (SrcEn prog w A env (.ListComp elt [⟨.Tuple [.Name a pa, .Name b pb] kk tp, iter, [], 0⟩] scope pos) scope cl (compPost (model prog w) A E none Q) E) E s)
    (hs : ∀ x, foldedSetIterable iter env x = pure x := by intro _; rfl) :
    wpAny (model prog w) A (eval (.ListComp elt [⟨.Tuple [.Name a pa, .Name b pb] kk tp, iter, [], 0⟩] scope pos) env) Q E s := by
  rw [eval_ListComp]
  exact wpAny_comprehension_free (use := none) rfl hs hclos hkind hnames h
theorem enum_assign {y : Str} {py spos : Pos} {Q : Flow → Shared → Prop} (hsw : swapsWith (.ListComp elt [⟨.Tuple [.Name a pa, .Name b pb] kk tp, iter, [], 0⟩] scope pos) (some (.Name y py)) spos.line env = pure true)
    (hclos : closureFor scope env = pure cl) (hkind : scope.kind = .function) (hnames : ∀ y ∈ scope.names, y.2 = .local → scope.names.lookup y.1 = some .local)
    (h : wpAny (model prog w) A (eval iter env) (SrcEn prog w A env (.ListComp elt [⟨.Tuple [.Name a pa, .Name b pb] kk tp, iter, [], 0⟩] scope pos) scope cl (compPost (model prog w) A E (some (assign (.Name y py) env)) fun _ s' => Q .next s') E) E s)
    (hs : ∀ x, foldedSetIterable iter env x = pure x := by intro _; rfl) :
    wpAny (model prog w) A (exec (.Assign [.Name y py] (.ListComp elt [⟨.Tuple [.Name a pa, .Name b pb] kk tp, iter, [], 0⟩] scope pos) spos) env) Q E s := by
  rw [exec_Assign_Name_used _ _ _ _ hsw]
  refine wpAny_bind (wpAny_standAt (wpAny_bind ?_))
  show wpAny _ A (do let _ ← comprehension (.ListComp elt [⟨.Tuple [.Name a pa, .Name b pb] kk tp, iter, [], 0⟩] scope pos) scope env _ (newList []) false (eval iter env) (some (assign (.Name y py) env))) _ _ s
  exact wpAny_bind (wpAny_mono (wpAny_comprehension_free (use := some (assign (.Name y py) env)) (Q := fun _ s' => Q .next s') rfl hs hclos hkind hnames h) (fun _ s' hq => wpAny_pure (wpAny_pure hq)) fun _ _ e => e)
theorem fin_assign {y : Str} {py : Pos} {Q : Value → Shared → Prop} {D C : Addr} {ys : List Value} {h : Heap} {tk : Nat} {m' : Str → Option Value} {news : List (Addr × Obj)} (hLe : env.locals = L) (hy : env.kindOf y = some .local) (hp : (env.scope.kind == .class || (env.scope.kind == .module && env.locals != env.globals)) = false)
    (F : Fr h₀ L h m) (N : News h₀ L h ((D, lst ys) :: news)) (hn : h.Ns C m') (hC₀ : h₀.get? C = none) (hCL : @Ne Nat C L) (hDC : @Ne Nat D C) (offC : ∀ p ∈ news, p.1 ≠ C)
    (fin : ∀ h tk, Fr h₀ L h (fun z => if z = y then some (.ref D) else m z) → News h₀ L h ((D, lst ys) :: news) → Q .none { s with heap := h, toks := tk }) :
    compPost (model prog w) A E (some (assign (.Name y py) env)) Q (.ref D) C (.ok .next) { s with heap := h, toks := tk } := by
  subst hLe
  show wpAny _ A (assign (.Name y py) env (.ref D)) _ _ _
  refine wpAny_assign_Name (wpAny_storeName_local hy F.ns (fun h₂ hn₂ hs₂ => ?_) hp)
  have hL₀ : h₀.get? env.locals = none := Heap.get?_none_of_le F.above
  have F₂ : Fr h₀ env.locals h₂ (fun z => if z = y then some (.ref D) else m z) := ⟨hn₂, fun b o e => hs₂.extBut b o (fun q => by rw [q, hL₀] at e; cases e) (F.keep b o e), F.above⟩
  refine ⟨m', hn.sameBut hs₂ hCL, fun h'' hs'' => fin h'' _ (F₂.change hs'' hCL hC₀) fun p hp => ⟨hs''.extBut _ _ ?_ (hs₂.extBut _ _ (N p hp).2.1 (N p hp).1), (N p hp).2⟩⟩
  rcases List.mem_cons.mp hp with rfl | hp
  · exact hDC
  · exact offC p hp
theorem enum_src {RR : Value → Addr → Result → Shared → Prop} {l : Addr} {vs : List Value} {n : Nat} {news : List (Addr × Obj)} (J : Nat → List Value → Prop)
    (hcell : ∀ y ∈ scope.names, y.2 ≠ .cell) (hkind : scope.kind = .function) (hxa : scope.names.lookup a = some .local) (hxb : scope.names.lookup b = some .local) (hab : ¬ a = b)
    (hh : A.handled = none) (F : Fr h₀ L s.heap m) (N : News h₀ L s.heap news) (hm : (l, listOf vs.toArray n) ∈ news) (hsz : vs.length ≤ sizeLine) (h0 : J 0 [])
    (step : ∀ i ys x t e oe it oi C oC D m₂ h tk (E' : Value → Shared → Prop), vs[i]? = some x → J i ys → NsObj oC m₂ → m₂ a = some (.int (i : Int) t) → m₂ b = some x → Fr h₀ L h m → News h₀ L h ((e, oe) :: (it, oi) :: (C, oC) :: (D, lst ys) :: news) →
      wpAny (model prog w) A (eval elt (compEnvC scope cl C env)) (EEnd h₀ L m { s with heap := h, toks := tk } ((e, oe) :: (it, oi) :: (C, oC) :: (D, lst ys) :: news) (fun y => J (i + 1) (ys ++ [y]))) E' { s with heap := h, toks := tk })
    (fin : ∀ D C ys h tk m', J vs.length ys → Fr h₀ L h m → News h₀ L h ((D, lst ys) :: news) → h.Ns C m' → h₀.get? C = none → (@Ne Nat C L) → (@Ne Nat D C) → (∀ p ∈ news, p.1 ≠ C) → RR (.ref D) C (.ok .next) { s with heap := h, toks := tk }) :
    wpAny (model prog w) A (call (.type "enumerate") [.ref l]) (SrcEn prog w A env (.ListComp elt [⟨.Tuple [.Name a pa, .Name b pb] kk tp, iter, [], 0⟩] scope pos) scope cl RR E) E s := by
  have hax := N _ hm
  have hl : s.heap.IsList l vs.toArray := ⟨_, hax.1, rfl, n, rfl⟩
  have hlt' : l < s.heap.objs.size := Heap.lt_size hax.1
  have hLs : L < s.heap.objs.size := F.ns.lt
  refine call_enumerate_list hl fun h' hE hI hsz' hk => ?_
  unfold SrcEn
  refine wpAny_pyIter_enum hE ?_
  have W := WalksT.enumerate (prog := prog) (w := w) (A := A) hh (s.heap.objs.size + 1) s.heap.objs.size l (Nat.succ_ne_self _) (ktu_ne 1 hlt') (Nat.ne_of_lt hlt') vs.toArray
  refine wpAny_newObj_type (wpAny_newFunctionEnv hcell (by intro y hy; simp at hy) (fun h₁ hns₁ hsb₁ => ?_) hkind)
  dsimp only at hns₁ hsb₁ ⊢
  generalize hH2 : h'.push { cls := .type "list", dict := none, data := .seq ([] : List Value).toArray } = H2 at hns₁ hsb₁ ⊢
  have hC : H2.objs.size = h'.objs.size + 1 := by rw [← hH2, Heap.size_push]
  have below : ∀ b, b < h'.objs.size → b ≠ H2.objs.size ∧ b ≠ h'.objs.size := fun b hb => ⟨by rw [hC]; exact Nat.ne_of_lt (Nat.lt_succ_of_lt hb), Nat.ne_of_lt hb⟩
  have old : ∀ b o, h'.get? b = some o → h₁.get? b = some o := fun b o e => hsb₁.extBut b o (below b (Heap.lt_size e)).1 (Heap.get?_push_of_some _ (hH2 ▸ Heap.get?_push_of_some _ e))
  have hDC : h'.objs.size ≠ H2.objs.size := by rw [hC]; exact Nat.ne_of_lt (Nat.lt_succ_self _)
  have hacc : h₁.get? h'.objs.size = some (lst []) := hsb₁.extBut _ _ hDC (Heap.get?_push_of_some _ (hH2 ▸ Heap.get?_push_size _ rfl))
  generalize hDd : h'.objs.size = D at *
  generalize hCd : H2.objs.size = C at *
  have new : ∀ b, s.heap.objs.size ≤ b → h₀.get? b = none := fun b hb => Heap.get?_none_of_le (Nat.le_trans (Nat.le_of_lt (Nat.lt_of_le_of_lt F.above F.ns.lt)) hb)
  have sD : s.heap.objs.size < D := by omega
  have sC : s.heap.objs.size < C := by omega
  have hD₀ := new D (Nat.le_of_lt sD)
  have hC₀ := new C (Nat.le_of_lt sC)
  have hDL : D ≠ L := Nat.ne_of_gt (Nat.lt_trans hLs sD)
  have hCL : C ≠ L := Nat.ne_of_gt (Nat.lt_trans hLs sC)
  have lo : ∀ p ∈ news, p.1 < s.heap.objs.size := fun p hp => Heap.lt_size (N p hp).1
  have F₁ : Fr h₀ L h₁ m := (F.keeps hk).keeps old
  have N₁ : News h₀ L h₁ ((D, lst []) :: news) := fun p hp => by
    rcases List.mem_cons.mp hp with rfl | hp
    · exact ⟨hacc, hDL, hD₀⟩
    · exact ⟨old _ _ (hk _ _ (N p hp).1), (N p hp).2⟩
  have st₀ : (∃ old, IsEnum h₁ (s.heap.objs.size + 1) s.heap.objs.size ((0 : Nat) : Int) old) ∧ h₁.IsListIter s.heap.objs.size l 0 ∧ h₁.IsList l vs.toArray := by
    refine W.frame 0 h' h₁ ⟨⟨.none, hE⟩, hI, hl.at fun o e => hk l o e⟩ fun b _ o e => old b o e
  have loop : ∀ s₃ : Shared, (∃ tk, s₃ = { s with heap := h₁, toks := tk }) → codeAny (model prog w) A (.compLoop (.ListComp elt [⟨.Tuple [.Name a pa, .Name b pb] kk tp, iter, [], 0⟩] scope pos) 0 (.ref (s.heap.objs.size + 1)) (.ref D) (compEnvC scope cl C env))
        (RR (.ref D) C) s₃ := by
    rintro s₃ ⟨tk₃, rfl⟩
    refine kcp_loop (fun k s' => ∃ h' tk i ys m', s' = { s with heap := h', toks := tk } ∧ i ≤ vs.length ∧ k = vs.length + 1 - i ∧ ys.length = i ∧ ((∃ old, IsEnum h' (s.heap.objs.size + 1) s.heap.objs.size (i : Int) old) ∧ h'.IsListIter s.heap.objs.size l i ∧ h'.IsList l vs.toArray) ∧ Fr h₀ L h' m ∧ h'.Ns C m' ∧ News h₀ L h' ((D, lst ys) :: news) ∧ J i ys) ?_ (vs.length + 1)
      ⟨h₁, tk₃, 0, [], _, rfl, Nat.zero_le _, rfl, rfl, st₀, F₁, hns₁, N₁, h0⟩
    rintro k s' ⟨h₂, tk, i, ys, m', rfl, hi, rfl, hyl, hst, F₂, hn₂, N₂, hJ⟩
    have wr : ∀ {b : Addr}, b < s.heap.objs.size ∨ s.heap.objs.size + 1 < b → b ∉ [s.heap.objs.size + 1, s.heap.objs.size] := fun {b} hb hm => by
      have hm' : b = s.heap.objs.size + 1 ∨ b = s.heap.objs.size := by simpa using hm
      have hb' : @LT.lt Nat _ b s.heap.objs.size ∨ @LT.lt Nat _ (s.heap.objs.size + 1) b := hb
      rcases hm' with rfl | rfl <;> rcases hb' with h9 | h9 <;> omega
    have wD : D ∉ [s.heap.objs.size + 1, s.heap.objs.size] := wr (.inr (by omega))
    have wC : C ∉ [s.heap.objs.size + 1, s.heap.objs.size] := wr (.inr (by omega))
    have wL : L ∉ [s.heap.objs.size + 1, s.heap.objs.size] := wr (.inl hLs)
    have carry : ∀ {g g' : Heap} {ys : List Value}, Fr h₀ L g m → News h₀ L g ((D, lst ys) :: news) → (∀ b o, b ∉ [s.heap.objs.size + 1, s.heap.objs.size] → g.get? b = some o → g'.get? b = some o) → Fr h₀ L g' m ∧ News h₀ L g' ((D, lst ys) :: news) := by
      intro g g' ys Fg Ng kg
      refine ⟨⟨Fg.ns.at' fun o e => kg L o wL e, fun b o e => kg b o (wr (.inl ?_)) (Fg.keep b o e), Fg.above⟩, fun p hp => ⟨kg _ _ ?_ (Ng p hp).1, (Ng p hp).2⟩⟩
      · exact Nat.lt_of_not_le fun hle => by rw [new b hle] at e; cases e
      · rcases List.mem_cons.mp hp with rfl | hp
        · exact wD
        · exact wr (.inl (lo p hp))
    by_cases hlt : i < vs.length
    · refine W.item i _ _ _ (by simpa using hlt) hst fun T vals h₃ tk₃ hPt _ hT hMid hk₃ => ?_
      obtain ⟨t, x, hx, rfl⟩ := hPt
      refine W.go _ _ _ i T _ _ _ hMid fun h₄ hst₄ hk₄ => ?_
      have hT₄ : h₄.IsTuple T #[.int (i : Int) t, x] := hT.at fun o e => hk₄ T o (W.apart i T _ hMid) e
      have k24 : ∀ b o, b ∉ [s.heap.objs.size + 1, s.heap.objs.size] → h₂.get? b = some o → h₄.get? b = some o := fun b o hb e => hk₄ b o hb (hk₃ b o hb e)
      obtain ⟨F₄, N₄⟩ := carry F₂ N₂ k24
      refine kcp_assign (env := compEnvC scope cl C env) hh hT₄ (lookup_relabel_local hxa) (lookup_relabel_local hxb) (by simp [compEnvC, relabel, hkind]) (hn₂.at' fun o e => k24 C o wC e) fun h₅ tk₅ hn₅ hs₅ => ?_
      have k45 : ∀ b o, b ≠ C → h₄.get? b = some o → h₅.get? b = some o := hs₅
      have hlC : l ≠ C := Nat.ne_of_lt (Nat.lt_trans hlt' sC)
      obtain ⟨⟨old₄, he₄⟩, hi₄, hl₄⟩ := hst₄
      have hst₅ : (∃ old, IsEnum h₅ (s.heap.objs.size + 1) s.heap.objs.size ((i + 1 : Nat) : Int) old) ∧ h₅.IsListIter s.heap.objs.size l (i + 1) ∧ h₅.IsList l vs.toArray :=
        W.frame (i + 1) h₄ h₅ ⟨⟨old₄, he₄⟩, hi₄, hl₄⟩ fun b hb o e => k45 b o (by
          have hb' : b = s.heap.objs.size + 1 ∨ b = s.heap.objs.size ∨ b = l := by simpa using hb
          rcases hb' with rfl | rfl | rfl
          · exact Nat.ne_of_lt (by omega)
          · exact Nat.ne_of_lt sC
          · exact hlC) e
      obtain ⟨oe, hoe⟩ : ∃ oe, h₅.get? (s.heap.objs.size + 1) = some oe := by obtain ⟨⟨_, q⟩, _⟩ := hst₅; exact ⟨_, q⟩
      obtain ⟨oi, hoi⟩ : ∃ oi, h₅.get? s.heap.objs.size = some oi := by obtain ⟨_, ⟨o, q, _⟩, _⟩ := hst₅; exact ⟨o, q⟩
      obtain ⟨oC, heC, hoC⟩ := ns_obj hn₅
      have F₅ : Fr h₀ L h₅ m := ⟨F₄.ns.at' fun o e => k45 L o (Ne.symm hCL) e, fun b o e => k45 b o (fun q => by rw [q, hC₀] at e; cases e) (F₄.keep b o e), F₄.above⟩
      have N₅ : News h₀ L h₅ ((s.heap.objs.size + 1, oe) :: (s.heap.objs.size, oi) :: (C, oC) :: (D, lst ys) :: news) := fun p hp => by
        rcases List.mem_cons.mp hp with rfl | hp
        · exact ⟨hoe, Nat.ne_of_gt (Nat.lt_succ_of_lt hLs), new _ (Nat.le_succ _)⟩
        rcases List.mem_cons.mp hp with rfl | hp
        · exact ⟨hoi, Nat.ne_of_gt hLs, new _ (Nat.le_refl _)⟩
        rcases List.mem_cons.mp hp with rfl | hp
        · exact ⟨heC, hCL, hC₀⟩
        · refine ⟨k45 _ _ ?_ (N₄ p hp).1, (N₄ p hp).2⟩
          rcases List.mem_cons.mp hp with rfl | hp
          · exact hDC
          · exact Nat.ne_of_lt (Nat.lt_trans (lo p hp) sC)
      refine wpAny_mono (step i ys x t _ oe _ oi C oC D _ h₅ _ _ (by simpa using hx) hJ hoC (by simp [hab]) (by simp) F₅ N₅) (fun y s₆ h₆ => ?_) fun _ _ e => e
      obtain ⟨h₆, tk₆, rfl, F₆, N₆, hJ₆⟩ := h₆
      have g6 : ∀ b o, (b, o) ∈ ((s.heap.objs.size + 1, oe) :: (s.heap.objs.size, oi) :: (C, oC) :: (D, lst ys) :: news) → h₆.get? b = some o := fun b o hb => (N₆ (b, o) hb).1
      have hst₆ : (∃ old, IsEnum h₆ (s.heap.objs.size + 1) s.heap.objs.size ((i + 1 : Nat) : Int) old) ∧ h₆.IsListIter s.heap.objs.size l (i + 1) ∧ h₆.IsList l vs.toArray :=
        W.frame (i + 1) h₅ h₆ hst₅ fun b hb o e => by
          have hb' : b = s.heap.objs.size + 1 ∨ b = s.heap.objs.size ∨ b = l := by simpa using hb
          rcases hb' with rfl | rfl | rfl
          · rw [hoe] at e; cases e; exact g6 _ _ (.head _)
          · rw [hoi] at e; cases e; exact g6 _ _ (.tail _ (.head _))
          · have := (N₅ _ (.tail _ (.tail _ (.tail _ (.tail _ hm))))).1
            rw [this] at e; cases e
            exact g6 _ _ (.tail _ (.tail _ (.tail _ (.tail _ hm))))
      have zD := g6 D (lst ys) (.tail _ (.tail _ (.tail _ (.head _))))
      refine append_at (hsz := by show ys.toArray.size ≤ sizeLine; rw [List.size_toArray, hyl]; exact Nat.le_trans hi hsz) zD fun h₇ hs₇ hD₇ => ?_
      have k67 : ∀ b o, b ≠ D → h₆.get? b = some o → h₇.get? b = some o := fun b o hb e => hs₇.extBut b o hb e
      refine ⟨vs.length + 1 - (i + 1), by omega, h₇, tk₆, i + 1, ys ++ [y], _, rfl, hlt, rfl, by rw [List.length_append, List.length_singleton, hyl], ?_, F₆.change hs₇ hDL hD₀, (hoC.ns (g6 C oC (.tail _ (.tail _ (.head _))))).sameBut hs₇ (Ne.symm hDC), fun p hp => ?_, hJ₆⟩
      · exact W.frame (i + 1) h₆ h₇ hst₆ fun b hb o e => k67 b o (by
          have hb' : b = s.heap.objs.size + 1 ∨ b = s.heap.objs.size ∨ b = l := by simpa using hb
          rcases hb' with rfl | rfl | rfl
          · exact Nat.ne_of_lt (by omega)
          · exact Nat.ne_of_lt sD
          · exact Nat.ne_of_lt (Nat.lt_trans hlt' sD)) e
      · rcases List.mem_cons.mp hp with rfl | hp
        · exact ⟨hD₇.trans (congrArg some (lst_snoc ys y)), hDL, hD₀⟩
        · exact ⟨k67 _ _ (Nat.ne_of_lt (Nat.lt_trans (lo p hp) sD)) (N₆ p (.tail _ (.tail _ (.tail _ (.tail _ hp))))).1, (N p hp).2⟩
    · have hin : i = vs.length := Nat.le_antisymm hi (Nat.not_lt.mp hlt)
      subst hin
      refine W.done _ _ _ (by simpa using hst) fun h₃ tk₃ hk₃ => ?_
      obtain ⟨F₃, N₃⟩ := carry F₂ N₂ hk₃
      exact fin D C ys h₃ tk₃ _ hJ F₃ N₃ (hn₂.at' fun o e => hk₃ C o wC e) hC₀ hCL hDC fun p hp => Nat.ne_of_lt (Nat.lt_trans (lo p hp) sC)
  exact codeAny_compStart_list (loop _ ⟨_, rfl⟩) (W.self 0 _ _ _ st₀ (loop _ ⟨_, rfl⟩))
end
end
-- Y1 (0)
section
open PySem PySem.W PyProof.Rows
/-- the plain law: trees -/
def tp (q1 q2 q3 : Nat) : List (List Int) :=
  let a := [0]
  let b := [[], a].getD q1 [] ++ [1]
  let c := [[], a, b].getD q2 [] ++ [2]
  let d := [[], a, b, c].getD q3 [] ++ [3]
  [[], a, b, c, d]
theorem paths_tp (d0 d1 d2 d3 : Int) : pathsOf d0 d1 d2 d3 = tp (d1 % 2).toNat (d2 % 3).toNat (d3 % 4).toNat := by
  have e : d0 % 1 = 0 := Int.emod_one d0
  simp only [pathsOf, path1, path2, path3, path4, nextPath, tp, List.length_cons, List.length_nil, Int.natCast_add, Int.natCast_zero, Int.natCast_one, Int.zero_add, e]
  rfl
def bitP (q1 q2 q3 i k : Nat) : Bool := ((tp q1 q2 q3).getD i []).any (· == (k : Int))
/-- pieces -/
def subA (c d : Nat) : Int := if c = d then 0 else if lowA c = lowA d then 1 else 2
theorem sub_A {c d : Nat} (hc : c < 128) (hd : d < 128) : sub c d = subA c d := by
  unfold sub subst subA
  rw [lower_one hc, lower_one hd]
  by_cases h : c = d
  · rw [if_pos (by rw [h]), if_pos h]
  · rw [if_neg (fun e => h (by simpa using S_inj e)), if_neg h]
    by_cases h2 : lowA c = lowA d
    · rw [if_pos (by rw [h2]), if_pos h2]
    · rw [if_neg (fun e => h2 (by simpa using S_inj e)), if_neg h2]
def T0A (l r : List Nat) : Int := (List.zipWith subA l r).sum
theorem T0_A : ∀ {l r : List Nat}, (∀ c ∈ l, c < 128) → (∀ c ∈ r, c < 128) → T0 l r = T0A l r
  | [], _, _, _ => by simp [T0, T0A]
  | _ :: _, [], _, _ => by simp [T0, T0A]
  | c :: l, d :: r, h1, h2 => by
    have := T0_A (l := l) (r := r) (fun c h => h1 c (.tail _ h)) (fun c h => h2 c (.tail _ h))
    simp only [T0, T0A] at this
    simp only [T0, T0A, List.zipWith_cons_cons, List.sum_cons, this, sub_A (h1 c (.head _)) (h2 d (.head _))]
def pcp (p : Int) (mk : Int) (ma mb : List Nat) (i c : Nat) (inn : Bool) : List Nat :=
  if p = 2 then (if (i : Int) = mk then (if inn then mb else ma) else (if inn then [53 + i] else [c])) else (if inn then [c] else [lowA c])
theorem pc_p (prs : List Int) (mk : Int) (ma mb : List Nat) (i c : Nat) (inn : Bool) : pc prs mk ma mb i c inn = pcp (prs.getD i 0) mk ma mb i c inn := rfl
def offA (x y : List Nat) : Bool := (List.range x.length).all fun i => (List.range x.length).all fun j => i == j || subA (y.getD j 0) (x.getD i 0) == 2
def disj (x y : List Nat) : Bool := x.all fun c => y.all fun d => lowA c != lowA d
def wordL (w : Nat) : List Nat := if w = 0 then [66, 67, 69, 70] else if w = 1 then [73, 74, 75, 77] else [77, 78, 79, 80]
def mkA (h : Nat) : List Nat := if h = 0 then [38, 108, 116, 59] else if h = 1 then [38, 103, 116, 59] else if h = 2 then [38, 35, 49, 48, 59] else [38, 35, 120, 68, 59]
def mkB (h : Nat) : List Nat := if h = 0 then [38, 103, 116, 59] else if h = 1 then [38, 108, 116, 59] else if h = 2 then [38, 35, 49, 51, 59] else [38, 35, 120, 65, 59]
def pN (p : Bool) : Int := if p then 2 else 1
/-- the piece of place k -/
def pk (w h z : Nat) (p : Bool) (k : Nat) (inn : Bool) : List Nat := pcp (pN p) (3 * (z : Int)) (mkA h) (mkB h) k ((wordL w).getD k 0) inn
def okPiece (w h z : Nat) (p : Bool) (k : Nat) (x y : Bool) : Bool :=
  let a := pk w h z p k x
  let b := pk w h z p k y
  a.length == b.length && decide (a.length ≤ (if k == 3 * z then 5 else 1)) && a.all (· < 128) && offA a b && (T0A a b == if x = y then 0 else pN p)
theorem ok_piece : ∀ w, w < 3 → ∀ h, h < 4 → ∀ z, z < 2 → ∀ k, k < 4 → ∀ p x y, okPiece w h z p k x y = true := by decide +kernel
set_option synthInstance.maxHeartbeats 400000 in
set_option synthInstance.maxSize 4000 in
theorem ok_disj : ∀ w, w < 3 → ∀ h, h < 4 → ∀ z, z < 2 → ∀ k, k < 4 → ∀ j, j < 4 → ∀ p q x y, (k == j || disj (pk w h z p k x) (pk w h z q j y)) = true := by decide +kernel
theorem txt_pk {w h z k : Nat} {p inn : Bool} : ∀ c ∈ pk w h z p k inn, c ∈ pk w h z p k inn := fun _ h => h
theorem off_app {a b c d : List Nat} (hl : a.length = b.length) (h1 : Off a b) (h2 : Off c d) (h3 : ∀ u ∈ a, ∀ v ∈ d, sub v u = 2) (h4 : ∀ u ∈ c, ∀ v ∈ b, sub v u = 2) (hl2 : c.length = d.length) : Off (a ++ c) (b ++ d) := by
  intro i j hi hj hij
  rw [List.length_append] at hi hj
  have g : ∀ {l : List Nat} {i : Nat} (h : i < l.length), l.getD i 0 ∈ l := fun {l i} h => by
    rw [List.getD_eq_getElem?_getD, List.getElem?_eq_getElem h, Option.getD_some]; exact List.getElem_mem h
  have fa : ∀ {l r : List Nat} {i : Nat} (_ : i < l.length), (l ++ r).getD i 0 = l.getD i 0 := fun {l r i} h => by
    rw [List.getD_eq_getElem?_getD, List.getD_eq_getElem?_getD, List.getElem?_append_left h]
  have fb : ∀ {l r : List Nat} {i : Nat} (_ : l.length ≤ i), (l ++ r).getD i 0 = r.getD (i - l.length) 0 := fun {l r i} h => by
    rw [List.getD_eq_getElem?_getD, List.getD_eq_getElem?_getD, List.getElem?_append_right h]
  by_cases ci : i < a.length
  · rw [fa ci]
    by_cases cj : j < b.length
    · rw [fa cj]
      exact h1 i j ci (by omega) hij
    · rw [fb (l := b) (i := j) (by omega)]
      exact h3 _ (g ci) _ (g (by omega))
  · rw [fb (l := a) (i := i) (by omega)]
    by_cases cj : j < b.length
    · rw [fa cj]
      exact h4 _ (g (by omega)) _ (g cj)
    · rw [fb (l := b) (i := j) (by omega), ← hl]
      exact h2 _ _ (by omega) (by omega) (by omega)
structure Two (a b : List Nat) (m : Nat) (t : Int) : Prop where
  len : a.length = b.length
  le : a.length ≤ m
  off : Off a b
  t0 : T0 a b = t
  as1 : ∀ c ∈ a, c < 128
  as2 : ∀ c ∈ b, c < 128
def Dj (a b : List Nat) : Prop := ∀ u ∈ a, ∀ v ∈ b, lowA u ≠ lowA v
theorem Dj.app {a b c : List Nat} (h1 : Dj a b) (h2 : Dj a c) : Dj a (b ++ c) := fun u hu v hv => by
  rcases List.mem_append.mp hv with h | h
  · exact h1 u hu v h
  · exact h2 u hu v h
theorem Dj.symm {a b : List Nat} (h : Dj a b) : Dj b a := fun u hu v hv e => h v hv u hu e.symm
theorem Dj.nil (a : List Nat) : Dj a [] := fun _ _ _ h => nomatch h
theorem Dj.sub2 {a b : List Nat} (h : Dj a b) (ha : ∀ c ∈ a, c < 128) (hb : ∀ c ∈ b, c < 128) : ∀ u ∈ a, ∀ v ∈ b, sub v u = 2 := fun u hu v hv => by
  rw [sub_A (hb v hv) (ha u hu)]
  unfold subA
  rw [if_neg (fun e => h u hu v hv (by rw [e])), if_neg (fun e => h u hu v hv e.symm)]
theorem Two.app {a b c d : List Nat} {m n : Nat} {t u : Int} (h1 : Two a b m t) (h2 : Two c d n u) (h3 : Dj a d) (h4 : Dj c b) : Two (a ++ c) (b ++ d) (m + n) (t + u) where
  len := by rw [List.length_append, List.length_append, h1.len, h2.len]
  le := by rw [List.length_append]; exact Nat.add_le_add h1.le h2.le
  off := off_app h1.len h1.off h2.off (h3.sub2 h1.as1 h2.as2) (h4.sub2 h2.as1 h1.as2) h2.len
  t0 := by rw [T0_append h1.len, h1.t0, h2.t0]
  as1 := fun c hc => (List.mem_append.mp hc).elim (h1.as1 c) (h2.as1 c)
  as2 := fun c hc => (List.mem_append.mp hc).elim (h1.as2 c) (h2.as2 c)
theorem Two.nil : Two [] [] 0 0 where
  len := rfl
  le := Nat.le_refl _
  off := fun _ _ h => absurd h (Nat.not_lt_zero _)
  t0 := rfl
  as1 := fun _ h => nomatch h
  as2 := fun _ h => nomatch h
theorem two_pk {w h z k : Nat} (hw : w < 3) (hh : h < 4) (hz : z < 2) (hk : k < 4) (p x y : Bool) : Two (pk w h z p k x) (pk w h z p k y) (if k == 3 * z then 5 else 1) (if x = y then 0 else pN p) := by
  have H := ok_piece w hw h hh z hz k hk p x y
  have Hy := ok_piece w hw h hh z hz k hk p y y
  simp only [okPiece, Bool.and_eq_true, beq_iff_eq, decide_eq_true_eq, List.all_eq_true] at H Hy
  obtain ⟨⟨⟨⟨hl, hle⟩, ha⟩, ho⟩, ht⟩ := H
  have hb := Hy.1.1.2
  refine ⟨hl, by simpa using hle, ?_, by rw [T0_A ha hb, ht], ha, hb⟩
  intro i j hi hj hij
  simp only [offA, List.all_eq_true, List.mem_range, Bool.or_eq_true, beq_iff_eq] at ho
  have g : ∀ {l : List Nat} {i : Nat} (h : i < l.length), l.getD i 0 ∈ l := fun {l i} h => by
    rw [List.getD_eq_getElem?_getD, List.getElem?_eq_getElem h, Option.getD_some]; exact List.getElem_mem h
  rw [sub_A (hb _ (g (by omega))) (ha _ (g hi))]
  exact (ho i hi j hj).resolve_left hij
theorem dj_pk {w h z k j : Nat} (hw : w < 3) (hh : h < 4) (hz : z < 2) (hk : k < 4) (hj : j < 4) (ne : k ≠ j) (p q x y : Bool) : Dj (pk w h z p k x) (pk w h z q j y) := by
  have H := ok_disj w hw h hh z hz k hk j hj p q x y
  rw [Bool.or_eq_true, beq_iff_eq] at H
  have H := H.resolve_left ne
  simp only [disj, List.all_eq_true, bne_iff_ne] at H
  exact H
def txt (w h z : Nat) (P b : Nat → Bool) : List Nat := pk w h z (P 0) 0 (b 0) ++ (pk w h z (P 1) 1 (b 1) ++ (pk w h z (P 2) 2 (b 2) ++ (pk w h z (P 3) 3 (b 3) ++ [])))
def dI (P x y : Nat → Bool) : Int := (if x 0 = y 0 then 0 else pN (P 0)) + ((if x 1 = y 1 then 0 else pN (P 1)) + ((if x 2 = y 2 then 0 else pN (P 2)) + ((if x 3 = y 3 then 0 else pN (P 3)) + 0)))
theorem two_txt {w h z : Nat} (hw : w < 3) (hh : h < 4) (hz : z < 2) (P x y : Nat → Bool) : Two (txt w h z P x) (txt w h z P y) 8 (dI P x y) := by
  have d : ∀ {k j : Nat} (hk : k < 4) (hj : j < 4) (ne : k ≠ j) (a b : Bool), Dj (pk w h z (P k) k a) (pk w h z (P j) j b) := fun hk hj ne a b => dj_pk hw hh hz hk hj ne _ _ a b
  have t : ∀ {k : Nat} (hk : k < 4), Two (pk w h z (P k) k (x k)) (pk w h z (P k) k (y k)) (if k == 3 * z then 5 else 1) (if x k = y k then 0 else pN (P k)) := fun hk => two_pk hw hh hz hk _ _ _
  have := (t (k := 0) (by decide)).app ((t (k := 1) (by decide)).app ((t (k := 2) (by decide)).app ((t (k := 3) (by decide)).app Two.nil (Dj.nil _) (Dj.nil _).symm)
      ((d (by decide) (by decide) (by decide) _ _).app (Dj.nil _)) (((d (by decide) (by decide) (by decide) _ _).app (Dj.nil _)).symm))
      ((d (by decide) (by decide) (by decide) _ _).app ((d (by decide) (by decide) (by decide) _ _).app (Dj.nil _))) (((d (by decide) (by decide) (by decide) _ _).app ((d (by decide) (by decide) (by decide) _ _).app (Dj.nil _))).symm))
      ((d (by decide) (by decide) (by decide) _ _).app ((d (by decide) (by decide) (by decide) _ _).app ((d (by decide) (by decide) (by decide) _ _).app (Dj.nil _)))) (((d (by decide) (by decide) (by decide) _ _).app ((d (by decide) (by decide) (by decide) _ _).app ((d (by decide) (by decide) (by decide) _ _).app (Dj.nil _)))).symm)
  have e : (if (0 : Nat) == 3 * z then 5 else 1) + ((if (1 : Nat) == 3 * z then 5 else 1) + ((if (2 : Nat) == 3 * z then 5 else 1) + ((if (3 : Nat) == 3 * z then 5 else 1) + 0))) = 8 := by
    match z, hz with
    | 0, _ => rfl
    | 1, _ => rfl
  rw [e] at this
  exact this
theorem pN_range (p : Bool) : 1 ≤ pN p ∧ pN p ≤ 2 := by cases p <;> decide
theorem term_range (a b p : Bool) : 0 ≤ (if a = b then 0 else pN p) ∧ (if a = b then 0 else pN p) ≤ 2 := by cases a <;> cases b <;> cases p <;> decide
theorem dI_range (P x y : Nat → Bool) : 0 ≤ dI P x y ∧ dI P x y ≤ 8 := by
  have h0 := term_range (x 0) (y 0) (P 0)
  have h1 := term_range (x 1) (y 1) (P 1)
  have h2 := term_range (x 2) (y 2) (P 2)
  have h3 := term_range (x 3) (y 3) (P 3)
  unfold dI
  exact ⟨Int.add_nonneg h0.1 (Int.add_nonneg h1.1 (Int.add_nonneg h2.1 (Int.add_nonneg h3.1 (Int.le_refl 0)))), Int.add_le_add h0.2 (Int.add_le_add h1.2 (Int.add_le_add h2.2 (Int.add_le_add h3.2 (Int.le_refl 0))))⟩
theorem lev_txt {w h z : Nat} (hw : w < 3) (hh : h < 4) (hz : z < 2) (P x y : Nat → Bool) : Lev (txt w h z P x) (txt w h z P y) := by
  have H := two_txt hw hh hz P x y
  have r := dI_range P x y
  exact ⟨H.len, Nat.le_trans H.le (by decide), H.off, by rw [H.t0]; exact r.1, by rw [H.t0]; exact r.2⟩
theorem txt_from {w h z : Nat} (hw : w < 3) (P : Nat → Bool) (path : List Int) {mk : Int} (hmk : mk = 3 * (z : Int)) {p0 p1 p2 p3 : Int} (e0 : p0 = pN (P 0)) (e1 : p1 = pN (P 1)) (e2 : p2 = pN (P 2)) (e3 : p3 = pN (P 3)) :
    txtFrom [p0, p1, p2, p3] mk (mkA h) (mkB h) path 0 (wordL w) = txt w h z P fun k => path.any (· == (k : Int)) := by
  subst hmk e0 e1 e2 e3
  match w, hw with
  | 0, _ => rfl
  | 1, _ => rfl
  | 2, _ => rfl
/-- the matrix -/
def pNn (p : Bool) : Nat := if p then 2 else 1
def dN (P x y : Nat → Bool) : Nat := (if x 0 = y 0 then 0 else pNn (P 0)) + ((if x 1 = y 1 then 0 else pNn (P 1)) + ((if x 2 = y 2 then 0 else pNn (P 2)) + (if x 3 = y 3 then 0 else pNn (P 3))))
def Pf (a b c d : Bool) (k : Nat) : Bool := if k = 0 then a else if k = 1 then b else if k = 2 then c else d
def nbq (q1 q2 q3 p : Nat) : List Nat := (([(0, 1), (1, 0), (q1, 2), (2, q1), (q2, 3), (3, q2), (q3, 4), (4, q3)] : List (Nat × Nat)).filter fun e => e.1 == p).map fun e => e.2
def addE (P : Nat → Bool) (p j : Nat) : List Nat := if P (max j p - 1) then [4] else [2, 4]
def sideE (P : Nat → Bool) (p j : Nat) : List Nat := if P (max j p - 1) then [2] else [1, 3]
def lhsE (q1 q2 q3 : Nat) (P : Nat → Bool) (s p : Nat) : List Nat :=
  (0 :: (nbq q1 q2 q3 p).flatMap (addE P p)).map (· + dN P (bitP q1 q2 q3 s) (bitP q1 q2 q3 p)) ++ if s = p then [4] else []
def rhsE (q1 q2 q3 : Nat) (P : Nat → Bool) (s p : Nat) : List Nat :=
  (4 + dN P (bitP q1 q2 q3 s) (bitP q1 q2 q3 p)) :: ((nbq q1 q2 q3 p).flatMap fun j => (sideE P p j).map (· + dN P (bitP q1 q2 q3 s) (bitP q1 q2 q3 j))) ++ if s = p then [0] else []
theorem ok_id : ∀ q1, q1 < 2 → ∀ q2, q2 < 3 → ∀ q3, q3 < 4 → ∀ p, p < 5 → ∀ s, s < 5 → ∀ a b c d, (lhsE q1 q2 q3 (Pf a b c d) s p).isPerm (rhsE q1 q2 q3 (Pf a b c d) s p) = true := by
  set_option synthInstance.maxHeartbeats 400000 in
  set_option synthInstance.maxSize 4000 in
  decide +kernel
theorem ok_nb : ∀ q1, q1 < 2 → ∀ q2, q2 < 3 → ∀ q3, q3 < 4 → ∀ p, p < 5 → ((nbq q1 q2 q3 p).Pairwise (· < ·) ∧ (∀ j ∈ nbq q1 q2 q3 p, j < 5 ∧ j ≠ p) ∧ 1 ≤ (nbq q1 q2 q3 p).length ∧ (nbq q1 q2 q3 p).length ≤ 4) := by
  set_option synthInstance.maxHeartbeats 400000 in
  set_option synthInstance.maxSize 4000 in
  decide +kernel
theorem ok_sym : ∀ (P x y : Nat → Bool), dN P x y = dN P y x := by
  intro P x y
  simp only [dN, eq_comm]
theorem ok_self (P x : Nat → Bool) : dN P x x = 0 := by simp [dN]
def sumP (b : Int) (l : List Nat) : Int := (l.map fun e => b ^ e).sum
theorem sumP_cons (b : Int) (e : Nat) (l : List Nat) : sumP b (e :: l) = b ^ e + sumP b l := by simp [sumP]
theorem sumP_perm {b : Int} {l r : List Nat} (h : l.Perm r) : sumP b l = sumP b r := by
  induction h with
  | nil => rfl
  | cons x _ ih => rw [sumP_cons, sumP_cons, ih]
  | swap x y l => rw [sumP_cons, sumP_cons, sumP_cons, sumP_cons]; omega
  | trans _ _ h1 h2 => exact h1.trans h2
theorem sumP_app (b : Int) (l r : List Nat) : sumP b (l ++ r) = sumP b l + sumP b r := by simp [sumP]
theorem sumP_shift (b : Int) (k : Nat) : ∀ l : List Nat, sumP b (l.map (· + k)) = b ^ k * sumP b l
  | [] => by simp [sumP]
  | e :: l => by rw [List.map_cons, sumP_cons, sumP_cons, sumP_shift b k l, Int.pow_add, Int.mul_add, Int.mul_comm (b ^ e)]
theorem sumP_flat (b : Int) (f : Nat → List Nat) : ∀ l : List Nat, sumP b (l.flatMap f) = (l.map fun j => sumP b (f j)).sum
  | [] => by simp [sumP]
  | e :: l => by rw [List.flatMap_cons, sumP_app, sumP_flat b f l, List.map_cons, List.sum_cons]
theorem prc_P {a b c d : Bool} {j p : Nat} (h : max j p - 1 < 4) : prc [pN a, pN b, pN c, pN d] j p = pN (Pf a b c d (max j p - 1)) := by
  unfold prc
  generalize max j p - 1 = k at h
  match k, h with
  | 0, _ => rfl
  | 1, _ => rfl
  | 2, _ => rfl
  | 3, _ => rfl
theorem add_E {a b c d : Bool} {j p : Nat} {x : Int} (h : max j p - 1 < 4) : addOf x [pN a, pN b, pN c, pN d] p j = sumP x (addE (Pf a b c d) p j) := by
  unfold addOf addE
  rw [prc_P h]
  cases Pf a b c d (max j p - 1)
  · simp [pN, fac, sumP, Int.mul_add, Int.pow_succ, Int.mul_assoc]
  · simp [pN, fac, sumP]
theorem side_E {a b c d : Bool} {j p : Nat} {x : Int} (h : max j p - 1 < 4) : sideOf x [pN a, pN b, pN c, pN d] p j = sumP x (sideE (Pf a b c d) p j) := by
  unfold sideOf sideE
  rw [prc_P h]
  cases Pf a b c d (max j p - 1)
  · simp [pN, fac, sumP, Int.mul_add, Int.pow_succ, Int.mul_assoc]
  · simp [pN, fac, sumP]
theorem the_id {q1 q2 q3 s p : Nat} (h1 : q1 < 2) (h2 : q2 < 3) (h3 : q3 < 4) (hp : p < 5) (hs : s < 5) (a b c d : Bool) (x : Int) (M : Nat → Int) (hM : ∀ j, j < 5 → M j = x ^ dN (Pf a b c d) (bitP q1 q2 q3 s) (bitP q1 q2 q3 j)) :
    M p * ownOf x [pN a, pN b, pN c, pN d] p (nbq q1 q2 q3 p) - ((nbq q1 q2 q3 p).map fun j => M j * sideOf x [pN a, pN b, pN c, pN d] p j).sum = if s = p then 1 - x ^ 4 else 0 := by
  obtain ⟨_, hlt, _, _⟩ := ok_nb q1 h1 q2 h2 q3 h3 p hp
  have H := sumP_perm (b := x) (List.isPerm_iff.mp (ok_id q1 h1 q2 h2 q3 h3 p hp s hs a b c d))
  unfold lhsE rhsE at H
  simp only [List.cons_append, sumP_app, sumP_shift, sumP_cons] at H
  rw [sumP_flat, sumP_flat] at H
  simp only [sumP_shift] at H
  have e1 : (nbq q1 q2 q3 p).map (addOf x [pN a, pN b, pN c, pN d] p) = (nbq q1 q2 q3 p).map fun j => sumP x (addE (Pf a b c d) p j) :=
    List.map_congr_left fun j hj => add_E (by have := hlt j hj; omega)
  have e2 : ((nbq q1 q2 q3 p).map fun j => M j * sideOf x [pN a, pN b, pN c, pN d] p j) = (nbq q1 q2 q3 p).map fun j => x ^ dN (Pf a b c d) (bitP q1 q2 q3 s) (bitP q1 q2 q3 j) * sumP x (sideE (Pf a b c d) p j) :=
    List.map_congr_left fun j hj => by rw [side_E (by have := hlt j hj; omega), hM j (hlt j hj).1]
  unfold ownOf
  rw [e1, e2, hM p hp]
  generalize ((nbq q1 q2 q3 p).map fun j => sumP x (addE (Pf a b c d) p j)).sum = A at H ⊢
  generalize ((nbq q1 q2 q3 p).map fun j => x ^ dN (Pf a b c d) (bitP q1 q2 q3 s) (bitP q1 q2 q3 j) * sumP x (sideE (Pf a b c d) p j)).sum = B at H ⊢
  rw [Int.pow_add, Int.mul_add, Int.pow_zero, Int.mul_one, Int.mul_comm (x ^ 4)] at H
  rw [Int.mul_add, Int.mul_sub, Int.mul_one]
  by_cases e : s = p
  · rw [if_pos e, if_pos e] at H
    rw [if_pos e]
    simp only [sumP, List.map_cons, List.map_nil, List.sum_cons, List.sum_nil, Int.pow_zero] at H
    omega
  · rw [if_neg e, if_neg e] at H
    rw [if_neg e]
    simp only [sumP, List.map_nil, List.sum_nil] at H
    omega
/-- names -/
theorem lowA_idem (c : Nat) : lowA (lowA c) = lowA c := by
  unfold lowA
  by_cases h : 65 ≤ c ∧ c ≤ 90
  · rw [if_pos h, if_neg (by omega)]
  · rw [if_neg h, if_neg h]
theorem lowL_idem (l : List Nat) : lowL (lowL l) = lowL l := by simp [lowL, lowA_idem]
def valL (l : List Nat) : Nat := l.foldl (fun a c => a * 16 + (c - 97)) 0
theorem apL_val (n : Nat) : valL (lowL (apL n)) = n := by
  induction n using Nat.strongRecOn with
  | _ n ih =>
    by_cases h : n = 0
    · subst h; rw [apL_zero]; rfl
    · have := ih (n / 16) (by omega)
      rw [apL_succ h]
      unfold lowL valL at this ⊢
      rw [List.map_append, List.foldl_append, this]
      have e : lowA (65 + n % 16) = 97 + n % 16 := by unfold lowA; rw [if_pos (by omega)]; omega
      simp only [List.map_cons, List.map_nil, List.foldl_cons, List.foldl_nil, e]
      omega
theorem apL_low_inj {m n : Nat} (h : lowL (apL m) = lowL (apL n)) : m = n := by rw [← apL_val m, h, apL_val]
theorem apL_chars (n : Nat) : ∀ c ∈ apL n, 65 ≤ c ∧ c ≤ 80 := by
  induction n using Nat.strongRecOn with
  | _ n ih =>
    by_cases h : n = 0
    · subst h; rw [apL_zero]; intro c hc; nomatch hc
    · rw [apL_succ h]
      intro c hc
      rcases List.mem_append.mp hc with hc | hc
      · exact ih (n / 16) (by omega) c hc
      · rw [List.mem_singleton.mp hc]; omega
theorem apL_len : ∀ (k n : Nat), n < 16 ^ k → (apL n).length ≤ k
  | 0, n, h => by
    have : n = 0 := by simpa using h
    subst this; rw [apL_zero]; decide
  | k + 1, n, h => by
    by_cases e : n = 0
    · subst e; rw [apL_zero]; exact Nat.zero_le _
    · rw [apL_succ e, List.length_append]
      have := apL_len k (n / 16) (by rw [Nat.pow_succ] at h; omega)
      simp only [List.length_cons, List.length_nil]
      omega
theorem apL_16 {n : Nat} (h : n < 2 ^ 62) : (apL n).length ≤ 16 := apL_len 16 n (Nat.lt_trans h (by decide))
theorem apL_plain {n : Nat} (h : n < 2 ^ 62) : Plain (apL n) := ⟨apL_16 h, fun c hc => by have := apL_chars n c hc; omega⟩
theorem gets_idx (nm : Nat → List Nat) (v : List Nat) (p : Nat) : ∀ l : List ((List Nat × List Nat) × (Nat × Nat)), (∀ e ∈ l, (lowL e.1.1 == lowL v) = (e.2.1 == p) ∧ e.1.2 = nm e.2.2) → gets (l.map fun e => e.1) v = (((l.map fun e => e.2).filter fun e => e.1 == p).map fun e => e.2).map nm
  | [], _ => rfl
  | e :: l, h => by
    have ih := gets_idx nm v p l fun x hx => h x (.tail _ hx)
    obtain ⟨h1, h2⟩ := h e (.head _)
    unfold gets at ih ⊢
    rw [List.map_cons, List.map_cons, List.filter_cons, List.filter_cons, h1]
    by_cases c : (e.2.1 == p) = true
    · rw [if_pos c, if_pos c, List.map_cons, List.map_cons, List.map_cons, ih, h2]
    · rw [if_neg c, if_neg c, ih]
def numOf (e : Nat → Nat) (k : Nat) : Nat := 5 * e k + k + 1
theorem nb_ok {e : Nat → Nat} {n0 n1 n2 n3 n4 : List Nat} {d0 d1 d2 d3 : Int} (h0 : n0 = apL (numOf e 0)) (h1 : n1 = apL (numOf e 1)) (h2 : n2 = apL (numOf e 2)) (h3 : n3 = apL (numOf e 3)) (h4 : n4 = apL (numOf e 4)) {p : Nat} (hp : p < 5) :
    NbOk [n0, n1, n2, n3, n4] (pairsOf n0 n1 n2 n3 n4 d0 d1 d2 d3) (nbq (d1 % 2).toNat (d2 % 3).toNat (d3 % 4).toNat p) p := by
  have b1 : (d1 % 2).toNat < 2 := by omega
  have b2 : (d2 % 3).toNat < 3 := by omega
  have b3 : (d3 % 4).toNat < 4 := by omega
  have b0 : (d0 % 1).toNat = 0 := by omega
  obtain ⟨k1, k2, k3, k4⟩ := ok_nb _ b1 _ b2 _ b3 p hp
  refine ⟨?_, k1, k2, k3, k4⟩
  have hnm : ∀ j, j < 5 → [n0, n1, n2, n3, n4].getD j [] = apL (numOf e j) := fun j hj => by
    match j, hj with
    | 0, _ => exact h0
    | 1, _ => exact h1
    | 2, _ => exact h2
    | 3, _ => exact h3
    | 4, _ => exact h4
  have key : ∀ {i : Nat}, i < 5 → (lowL ([n0, n1, n2, n3, n4].getD i []) == lowL ([n0, n1, n2, n3, n4].getD p [])) = (i == p) := fun {i} hi => by
    rw [hnm i hi, hnm p hp]
    by_cases c : i = p
    · subst c; simp
    · rw [beq_false_of_ne c, beq_false_of_ne]
      intro h
      have := apL_low_inj h
      unfold numOf at this
      omega
  have keyL : ∀ {i : Nat}, i < 5 → (lowL (lowL ([n0, n1, n2, n3, n4].getD i [])) == lowL ([n0, n1, n2, n3, n4].getD p [])) = (i == p) := fun hi => by rw [lowL_idem]; exact key hi
  unfold pairsOf aboveOf
  rw [b0]
  generalize (d1 % 2).toNat = q1 at b1 ⊢
  generalize (d2 % 3).toNat = q2 at b2 ⊢
  generalize (d3 % 4).toNat = q3 at b3 ⊢
  refine gets_idx (fun j => [n0, n1, n2, n3, n4].getD j []) _ p [((lowL ([n0, n1, n2, n3, n4].getD 0 []), n1), (0, 1)), ((n1, [n0, n1, n2, n3, n4].getD 0 []), (1, 0)), ((lowL ([n0, n1, n2, n3, n4].getD q1 []), n2), (q1, 2)), ((n2, [n0, n1, n2, n3, n4].getD q1 []), (2, q1)),
    ((lowL ([n0, n1, n2, n3, n4].getD q2 []), n3), (q2, 3)), ((n3, [n0, n1, n2, n3, n4].getD q2 []), (3, q2)), ((lowL ([n0, n1, n2, n3, n4].getD q3 []), n4), (q3, 4)), ((n4, [n0, n1, n2, n3, n4].getD q3 []), (4, q3))] ?_
  simp only [List.mem_cons, List.not_mem_nil, or_false, forall_eq_or_imp, forall_eq]
  exact ⟨⟨keyL (by omega), rfl⟩, ⟨key (i := 1) (by omega), trivial⟩, ⟨keyL (by omega), rfl⟩, ⟨key (i := 2) (by omega), trivial⟩, ⟨keyL (by omega), rfl⟩, ⟨key (i := 3) (by omega), trivial⟩, ⟨keyL (by omega), rfl⟩, ⟨key (i := 4) (by omega), trivial⟩⟩
theorem names_dist {e : Nat → Nat} {n0 n1 n2 n3 n4 : List Nat} (h0 : n0 = apL (numOf e 0)) (h1 : n1 = apL (numOf e 1)) (h2 : n2 = apL (numOf e 2)) (h3 : n3 = apL (numOf e 3)) (h4 : n4 = apL (numOf e 4)) :
    ∀ i j, i < j → j < 5 → [n0, n1, n2, n3, n4].getD i [] ≠ [n0, n1, n2, n3, n4].getD j [] := by
  have hnm : ∀ j, j < 5 → [n0, n1, n2, n3, n4].getD j [] = apL (numOf e j) := fun j hj => by
    match j, hj with
    | 0, _ => exact h0
    | 1, _ => exact h1
    | 2, _ => exact h2
    | 3, _ => exact h3
    | 4, _ => exact h4
  intro i j hi hj h
  rw [hnm i (by omega), hnm j hj] at h
  have := apL_low_inj (congrArg lowL h)
  unfold numOf at this
  omega
theorem pows : apL 15 = [80] ∧ apL 255 = [80, 80] ∧ apL 4095 = [80, 80, 80] ∧ apL 65535 = [80, 80, 80, 80] := by
  refine ⟨?_, ?_, ?_, ?_⟩ <;> simp [apL]
theorem lets : apL 4677 = [66, 67, 69, 70] ∧ apL 35244 = [73, 74, 75, 77] ∧ apL 52719 = [77, 78, 79, 80] := by
  refine ⟨?_, ?_, ?_⟩ <;> simp [apL]
theorem xs_txt {w h z : Nat} (hw : w < 3) {d0 d1 d2 d3 mk p0 p1 p2 p3 : Int} (P : Nat → Bool) (hmk : mk = 3 * (z : Int)) (e0 : p0 = pN (P 0)) (e1 : p1 = pN (P 1)) (e2 : p2 = pN (P 2)) (e3 : p3 = pN (P 3)) :
    ((pathsOf d0 d1 d2 d3).map fun p => txtFrom [p0, p1, p2, p3] mk (mkA h) (mkB h) p 0 (wordL w)) =
      [txt w h z P (bitP (d1 % 2).toNat (d2 % 3).toNat (d3 % 4).toNat 0), txt w h z P (bitP (d1 % 2).toNat (d2 % 3).toNat (d3 % 4).toNat 1), txt w h z P (bitP (d1 % 2).toNat (d2 % 3).toNat (d3 % 4).toNat 2), txt w h z P (bitP (d1 % 2).toNat (d2 % 3).toNat (d3 % 4).toNat 3), txt w h z P (bitP (d1 % 2).toNat (d2 % 3).toNat (d3 % 4).toNat 4)] := by
  rw [paths_tp]
  generalize (d1 % 2).toNat = q1
  generalize (d2 % 3).toNat = q2
  generalize (d3 % 4).toNat = q3
  have t := fun path => txt_from (h := h) hw P path hmk e0 e1 e2 e3
  simp only [tp, List.map_cons, List.map_nil, t]
  rfl
theorem price_b (x : Int) : ∃ b : Bool, x.fmod 2 + 1 = pN b := by
  have h1 := Int.fmod_nonneg_of_pos x (b := 2) (by decide)
  have h2 := Int.fmod_lt_of_pos x (b := 2) (by decide)
  by_cases e : x.fmod 2 = 0
  · exact ⟨false, by rw [e]; rfl⟩
  · exact ⟨true, by show _ = (2 : Int); omega⟩
theorem term_N (a b p : Bool) : (if a = b then 0 else pN p) = ((if a = b then 0 else pNn p : Nat) : Int) := by cases a <;> cases b <;> cases p <;> rfl
theorem dI_N (P x y : Nat → Bool) : dI P x y = (dN P x y : Int) := by
  unfold dI dN
  rw [term_N, term_N, term_N, term_N, Int.natCast_add, Int.natCast_add, Int.natCast_add, Int.add_zero]
/-- the powers' table, in numbers -/
theorem mat_pow {w h z : Nat} (hw : w < 3) (hh : h < 4) (hz : z < 2) (P : Nat → Bool) (q1 q2 q3 : Nat) (b : Int) {i j : Nat} (hi : i < 5) (hj : j < 5) :
    (matRow [txt w h z P (bitP q1 q2 q3 0), txt w h z P (bitP q1 q2 q3 1), txt w h z P (bitP q1 q2 q3 2), txt w h z P (bitP q1 q2 q3 3), txt w h z P (bitP q1 q2 q3 4)] b 5 0 i).getD j 0 = b ^ dN P (bitP q1 q2 q3 i) (bitP q1 q2 q3 j) := by
  have hg : ∀ k, k < 5 → [txt w h z P (bitP q1 q2 q3 0), txt w h z P (bitP q1 q2 q3 1), txt w h z P (bitP q1 q2 q3 2), txt w h z P (bitP q1 q2 q3 3), txt w h z P (bitP q1 q2 q3 4)].getD k [] = txt w h z P (bitP q1 q2 q3 k) := fun k hk => by
    match k, hk with
    | 0, _ => rfl
    | 1, _ => rfl
    | 2, _ => rfl
    | 3, _ => rfl
    | 4, _ => rfl
  have hp : ∀ k l, k < 5 → l < 5 → pw [txt w h z P (bitP q1 q2 q3 0), txt w h z P (bitP q1 q2 q3 1), txt w h z P (bitP q1 q2 q3 2), txt w h z P (bitP q1 q2 q3 3), txt w h z P (bitP q1 q2 q3 4)] b k l = b ^ dN P (bitP q1 q2 q3 k) (bitP q1 q2 q3 l) := fun k l hk hl => by
    unfold pw
    rw [hg k hk, hg l hl, (two_txt hw hh hz P _ _).t0, dI_N, Int.toNat_natCast]
  have e : (matRow [txt w h z P (bitP q1 q2 q3 0), txt w h z P (bitP q1 q2 q3 1), txt w h z P (bitP q1 q2 q3 2), txt w h z P (bitP q1 q2 q3 3), txt w h z P (bitP q1 q2 q3 4)] b 5 0 i).getD j 0 = matL [txt w h z P (bitP q1 q2 q3 0), txt w h z P (bitP q1 q2 q3 1), txt w h z P (bitP q1 q2 q3 2), txt w h z P (bitP q1 q2 q3 3), txt w h z P (bitP q1 q2 q3 4)] b 5 0 i j := by
    unfold matRow
    rw [List.getD_eq_getElem?_getD, List.getElem?_map, List.getElem?_range hj]
    rfl
  rw [e]
  unfold matL
  by_cases c : i = j
  · subst c
    rw [if_pos rfl, ok_self, Int.pow_zero]
  · rw [if_neg c, if_pos (.inl (by omega))]
    by_cases d : i < j
    · rw [Nat.max_eq_right (by omega), Nat.min_eq_left (by omega), hp j i hj hi, ok_sym]
    · rw [Nat.max_eq_left (by omega), Nat.min_eq_right (by omega), hp i j hi hj]
theorem dN_le (P x y : Nat → Bool) : dN P x y ≤ 8 := by
  have := dI_range P x y
  rw [dI_N] at this
  omega
theorem pow_le {b : Int} (hb : b.natAbs ≤ 16) {n : Nat} (hn : n ≤ 8) : (b ^ n).natAbs ≤ 2 ^ 40 := by
  rw [Int.natAbs_pow]
  exact Nat.le_trans (Nat.pow_le_pow_left hb n) (Nat.le_trans (Nat.pow_le_pow_right (by decide) hn) (by decide))
end
end Mine
-- W1
open PySem PySem.W PyProof.Rows
namespace Mine
local macro_rules | `(tactic| walk_at "call type:enumerate") => `(tactic| refine Hold.mk ?_)
local macro_rules | `(tactic| walk_at "call ref") => `(tactic| refine Hold.mk ?_)
local macro_rules | `(tactic| walk_at "call builtin:sum") => `(tactic| refine Hold.mk ?_)
local macro_rules | `(tactic| walk_at "subscriptTail") => `(tactic| ((with_reducible show wpAny _ _ (subscriptTail (Expr.List _ _) _ _ _) _ _ _); refine Hold.mk ?_))
local macro_rules | `(tactic| walk_at "call builtin:len") => `(tactic| refine Hold.mk ?_)
local macro_rules | `(tactic| walk_at "binaryOp Add ref ref") => `(tactic| refine Hold.mk ?_)
local macro_rules | `(tactic| walk_at "exec Assign cons ListComp") => `(tactic| (k_here; (with_reducible show wpAny _ _ (exec (Stmt.Assign _ (Expr.ListComp _ [⟨Expr.Tuple _ _ _, _, _, _⟩] _ _) _) _) _ _ _); k_dflt (refine enum_assign (by with_unfolding_all rfl) (by with_unfolding_all rfl) (by rfl) (by decide) ?_)))
theorem name_take {ws : List Value} {x : List Int} (_h : IntsAre ws (List.take 4 x)) : ∃ ws9 x9, ws9 = ws ∧ x9 = x := ⟨_, _, rfl, rfl⟩
theorem four_of {us : List Value} {l : List Int} (h : IntsAre us l) (h4 : l.length = 4) : ∃ d0 d1 d2 d3 t0 t1 t2 t3, us = [.int d0 t0, .int d1 t1, .int d2 t2, .int d3 t3] ∧ l = [d0, d1, d2, d3] := by
  rcases h with _ | ⟨d0, t0, _ | ⟨d1, t1, _ | ⟨d2, t2, _ | ⟨d3, t3, _ | ⟨d4, t4, h⟩⟩⟩⟩⟩
  · simp at h4
  · simp at h4
  · simp at h4
  · simp at h4
  · exact ⟨_, _, _, _, _, _, _, _, rfl, rfl⟩
  · simp at h4
theorem draws_len {f : Int → Int} {x : List Int} {c : Nat} (hc : c = (x.take 4).length) : ((x.take 4).map f ++ [(72 : Int), 133, 181, 108].drop c).length = 4 := by
  subst hc
  simp only [List.length_append, List.length_map, List.length_drop, List.length_take, List.length_cons, List.length_nil]
  omega
theorem draws_range {x : List Int} {c : Nat} : ∀ d ∈ (x.take 4).map (fun k => k.fmod (10 ^ Int.toNat 6)) ++ [(72 : Int), 133, 181, 108].drop c, 0 ≤ d ∧ d < 1000000 := by
  intro d hd
  rcases List.mem_append.mp hd with h | h
  · obtain ⟨k, _, rfl⟩ := List.mem_map.mp h
    have e : (10 : Int) ^ Int.toNat 6 = 1000000 := by decide
    rw [e]
    exact ⟨Int.fmod_nonneg_of_pos _ (by decide), Int.fmod_lt_of_pos _ (by decide)⟩
  · have := List.mem_of_mem_drop h
    simp only [List.mem_cons, List.not_mem_nil, or_false] at this
    rcases this with rfl | rfl | rfl | rfl <;> decide
theorem five_get {v0 v1 v2 v3 v4 : Int} {u0 u1 u2 u3 u4 : Tok} {i : Nat} {x : Value} (h : [Value.int v0 u0, .int v1 u1, .int v2 u2, .int v3 u3, .int v4 u4][i]? = some x) : i < 5 ∧ ∃ t, x = .int ([v0, v1, v2, v3, v4].getD i 0) t := by
  match i, h with
  | 0, h => exact ⟨by decide, u0, by simpa using h.symm⟩
  | 1, h => exact ⟨by decide, u1, by simpa using h.symm⟩
  | 2, h => exact ⟨by decide, u2, by simpa using h.symm⟩
  | 3, h => exact ⟨by decide, u3, by simpa using h.symm⟩
  | 4, h => exact ⟨by decide, u4, by simpa using h.symm⟩
  | i + 5, h => simp at h
def eOf (l : List Int) (k : Nat) : Nat := (((l.getD k 0).fdiv 24).fmod 50).toNat
theorem num_eq {l : List Int} {i : Nat} (hi : i < 5) : (5 * ((l.getD i 0).fdiv 24).fmod 50 + (i : Int) + 1).natAbs = numOf (eOf l) i ∧ numOf (eOf l) i < 2 ^ 62 := by
  have h1 := Int.fmod_nonneg_of_pos ((l.getD i 0).fdiv 24) (b := 50) (by decide)
  have h2 := Int.fmod_lt_of_pos ((l.getD i 0).fdiv 24) (b := 50) (by decide)
  unfold numOf eOf
  omega
def namesL (l : List Int) : List (List Nat) := [apL (numOf (eOf l) 0), apL (numOf (eOf l) 1), apL (numOf (eOf l) 2), apL (numOf (eOf l) 3), apL (numOf (eOf l) 4)]
theorem names_take {l : List Int} {i : Nat} (hi : i < 5) : (namesL l).take (i + 1) = (namesL l).take i ++ [apL (numOf (eOf l) i)] := by
  match i, hi with
  | 0, _ => rfl
  | 1, _ => rfl
  | 2, _ => rfl
  | 3, _ => rfl
  | 4, _ => rfl
theorem five_strs {vs : List Value} {x0 x1 x2 x3 x4 : List Nat} (h : StrsAre vs [x0, x1, x2, x3, x4]) : ∃ u0 u1 u2 u3 u4, vs = [.str (S x0) u0, .str (S x1) u1, .str (S x2) u2, .str (S x3) u3, .str (S x4) u4] := by
  rcases h with _ | ⟨_ | ⟨_ | ⟨_ | ⟨_ | ⟨h⟩⟩⟩⟩⟩
  cases h
  exact ⟨_, _, _, _, _, rfl⟩
theorem let_word {w : Nat} (hw : w < 3) : apS ([(4677 : Int), 35244, 52719].getD w 0).natAbs = S (wordL w) ∧ ([(4677 : Int), 35244, 52719].getD w 0).natAbs < 2 ^ 62 ∧ (apL ([(4677 : Int), 35244, 52719].getD w 0).natAbs).length ≤ 16 := by
  obtain ⟨l0, l1, l2⟩ := lets
  match w, hw with
  | 0, _ => exact ⟨by show (⟨(apL 4677).toArray⟩ : Str) = _; rw [l0]; rfl, by decide, by show (apL 4677).length ≤ 16; rw [l0]; decide⟩
  | 1, _ => exact ⟨by show (⟨(apL 35244).toArray⟩ : Str) = _; rw [l1]; rfl, by decide, by show (apL 35244).length ≤ 16; rw [l1]; decide⟩
  | 2, _ => exact ⟨by show (⟨(apL 52719).toArray⟩ : Str) = _; rw [l2]; rfl, by decide, by show (apL 52719).length ≤ 16; rw [l2]; decide⟩
theorem mark_S {n : Int} (h0 : 0 ≤ n) (h4 : n < 4) : markA n = S (mkA n.toNat) ∧ markB n = S (mkB n.toNat) := by
  have h : n = 0 ∨ n = 1 ∨ n = 2 ∨ n = 3 := by omega
  rcases h with rfl | rfl | rfl | rfl <;> exact ⟨by with_unfolding_all rfl, by with_unfolding_all rfl⟩
theorem fm_range (a : Int) {b : Int} (h : 0 < b) : 0 ≤ a.fmod b ∧ a.fmod b < b := ⟨Int.fmod_nonneg_of_pos _ h, Int.fmod_lt_of_pos _ h⟩
theorem word_ok (w : Nat) : (wordL w).all (· < 128) = true ∧ (wordL w).length = 4 := by unfold wordL; split <;> (try split) <;> decide
theorem mk_ok (h : Nat) : (mkA h).length ≤ 8 ∧ (mkB h).length ≤ 8 := by unfold mkA mkB; repeat' split
                                                                        all_goals decide
local macro_rules | `(tactic| walk_at "eval IfExp") => `(tactic| refine Hold.mk ?_)
theorem led_up {h₀ h : Heap} {L Tl : Addr} {R : Nat → Addr} {nT : Nat} {a b : Addr × Obj} {new : List (Addr × Obj)} {rows : Nat → List Value} (_N : News h₀ L h (rowsLed R Tl nT (a :: b :: new) rows)) : ∀ p, p ∈ new → p ∈ rowsLed R Tl nT (a :: b :: new) rows := fun _ hp => rows_base (.tail _ (.tail _ hp))
theorem pairs_plain {n0 n1 n2 n3 n4 : List Nat} (d0 d1 d2 d3 : Int) (h : ∀ x ∈ [n0, n1, n2, n3, n4], Plain x) : ∀ q ∈ pairsOf n0 n1 n2 n3 n4 d0 d1 d2 d3, Plain q.1 := by
  intro q hq
  simp only [pairsOf, List.mem_cons, List.not_mem_nil, or_false] at hq
  have g : ∀ i, Plain ([n0, n1, n2, n3, n4].getD i []) := fun i => plain_getD h i
  rcases hq with rfl | rfl | rfl | rfl | rfl | rfl | rfl | rfl
  · exact plain_low (g _)
  · exact g 1
  · exact plain_low (g _)
  · exact g 2
  · exact plain_low (g _)
  · exact g 3
  · exact plain_low (g _)
  · exact g 4
theorem price_v (a b c d : Bool) : ∀ q ∈ [pN a, pN b, pN c, pN d], q = 1 ∨ q = 2 := by
  have h : ∀ p : Bool, pN p = 1 ∨ pN p = 2 := fun p => by cases p <;> decide
  intro q hq
  simp only [List.mem_cons, List.not_mem_nil, or_false] at hq
  rcases hq with rfl | rfl | rfl | rfl <;> exact h _
theorem mul_P {k : Int} (h0 : 0 ≤ k) (h4 : k < 4) : Txt.mul (Str.ofString "P") (k + 1) = ⟨(List.replicate (k + 1).toNat 80).toArray⟩ := by
  have hk : k = 0 ∨ k = 1 ∨ k = 2 ∨ k = 3 := by omega
  rcases hk with rfl | rfl | rfl | rfl <;> with_unfolding_all rfl
def IntEnd (b : Int) (s : Shared) (v : Value) (s' : Shared) : Prop := ∃ t tk, v = .int b t ∧ s' = { s with toks := tk }
theorem eval_split {P : Model} {A : Around} {prog : Sem Value} {Q E : Value → Shared → Prop} {s : Shared} (b : Int) (h1 : wpAny P A prog (IntEnd b s) E s) (h2 : ∀ t tk, Q (.int b t) { s with toks := tk }) : wpAny P A prog Q E s :=
  wpAny_mono h1 (by rintro v s' ⟨t, tk, rfl, rfl⟩; exact h2 t tk) (fun _ _ e => e)
theorem base_ok {k : Int} (h0 : 0 ≤ k) (h4 : k < 4) {c : Prop} [Decidable c] {b : Int} (hb : (if c then 2 ^ (k + 1).toNat else -2 ^ (k + 1).toNat) = b) : b.natAbs ≤ 16 ∧ apL (1 - b ^ 4).natAbs = List.replicate (k + 1).toNat 80 ∧ (1 - b ^ 4).natAbs < 2 ^ 62 := by
  obtain ⟨p1, p2, p3, p4⟩ := pows
  have hk : k = 0 ∨ k = 1 ∨ k = 2 ∨ k = 3 := by omega
  subst hb
  rcases hk with rfl | rfl | rfl | rfl
  · split
    · exact ⟨by decide, by show apL 15 = _; rw [p1]; rfl, by decide⟩
    · exact ⟨by decide, by show apL 15 = _; rw [p1]; rfl, by decide⟩
  · split
    · exact ⟨by decide, by show apL 255 = _; rw [p2]; rfl, by decide⟩
    · exact ⟨by decide, by show apL 255 = _; rw [p2]; rfl, by decide⟩
  · split
    · exact ⟨by decide, by show apL 4095 = _; rw [p3]; rfl, by decide⟩
    · exact ⟨by decide, by show apL 4095 = _; rw [p3]; rfl, by decide⟩
  · split
    · exact ⟨by decide, by show apL 65535 = _; rw [p4]; rfl, by decide⟩
    · exact ⟨by decide, by show apL 65535 = _; rw [p4]; rfl, by decide⟩
theorem num_lt (l : List Int) {k : Nat} (hk : k < 5) : numOf (eOf l) k < 2 ^ 62 := (num_eq hk).2
theorem plain5 (l : List Int) : ∀ x ∈ [apL (numOf (eOf l) 0), apL (numOf (eOf l) 1), apL (numOf (eOf l) 2), apL (numOf (eOf l) 3), apL (numOf (eOf l) 4)], Plain x := by
  intro x hx
  simp only [List.mem_cons, List.not_mem_nil, or_false] at hx
  rcases hx with rfl | rfl | rfl | rfl | rfl <;> exact apL_plain (num_lt l (by decide))
theorem lev5 {w h z : Nat} (hw : w < 3) (hh : h < 4) (hz : z < 2) (P : Nat → Bool) (q1 q2 q3 : Nat) : ∀ i j, j < i → i < 5 → Lev ([txt w h z P (bitP q1 q2 q3 0), txt w h z P (bitP q1 q2 q3 1), txt w h z P (bitP q1 q2 q3 2), txt w h z P (bitP q1 q2 q3 3), txt w h z P (bitP q1 q2 q3 4)].getD i [])
    ([txt w h z P (bitP q1 q2 q3 0), txt w h z P (bitP q1 q2 q3 1), txt w h z P (bitP q1 q2 q3 2), txt w h z P (bitP q1 q2 q3 3), txt w h z P (bitP q1 q2 q3 4)].getD j []) := by
  have hg : ∀ k, k < 5 → [txt w h z P (bitP q1 q2 q3 0), txt w h z P (bitP q1 q2 q3 1), txt w h z P (bitP q1 q2 q3 2), txt w h z P (bitP q1 q2 q3 3), txt w h z P (bitP q1 q2 q3 4)].getD k [] = txt w h z P (bitP q1 q2 q3 k) := fun k hk => by
    match k, hk with
    | 0, _ => rfl
    | 1, _ => rfl
    | 2, _ => rfl
    | 3, _ => rfl
    | 4, _ => rfl
  intro i j hj hi
  rw [hg i hi, hg j (by omega)]
  exact lev_txt hw hh hz P _ _
local macro_rules | `(tactic| walk_at "CompRest") => `(tactic| refine Hold.mk ?_)
local macro_rules | `(tactic| walk_at "exec Assign") => `(tactic| k_fold)
theorem four_get {v0 v1 v2 v3 : Int} {u0 u1 u2 u3 : Tok} {i : Nat} {x : Value} (h : (#[Value.int v0 u0, .int v1 u1, .int v2 u2, .int v3 u3] : Array Value)[i]? = some x) : ∃ t, x = .int ([v0, v1, v2, v3].getD i 0) t ∧ [v0, v1, v2, v3].take (i + 1) = [v0, v1, v2, v3].take i ++ [[v0, v1, v2, v3].getD i 0] := by
  match i, h with
  | 0, h => exact ⟨u0, by simpa using h.symm, rfl⟩
  | 1, h => exact ⟨u1, by simpa using h.symm, rfl⟩
  | 2, h => exact ⟨u2, by simpa using h.symm, rfl⟩
  | 3, h => exact ⟨u3, by simpa using h.symm, rfl⟩
  | i + 4, h => simp at h
theorem lawW : PySem.Challenge.rw_tp0055_01.Holds := by
  exact Mine.hd (by
    k_go0
    all_goals try k_fold
    k_steps
    refine Hold.out ?_
    rename IntsAre _ (List.map _ _) => hI8
    rename IntsAre _ (List.take 4 _) => hI4
    rename Fr _ _ _ _ => F1
    rename News _ _ _ _ => N1
    obtain ⟨ws9, x9, hw9, hx9⟩ := name_take hI4
    subst hw9 hx9
    refine KM.len_K N1 (.head _) rfl (by rw [List.size_toArray, hI4.length, List.length_take]; omega) ?_
    k_steps
    refine Hold.out ?_
    (try dsimp only)
    refine kba_turn (value' := Expr.Name (Str.ofString "_") ⟨0, 0, 0, 0⟩) (fun _ => rfl) ?_
    refine kmk_slice_ints (s := ⟨_, _, _, _, _⟩) F1 N1 (News.isList N1 (.tail _ (.head _))) (IsPart.int _ _) IsPart.none (IntsAre.cons 72 _ (.cons 133 _ (.cons 181 _ (.cons 108 _ .nil)))) (kmk_from (IntsAre.cons 72 _ (.cons 133 _ (.cons 181 _ (.cons 108 _ .nil)))) (Int.natCast_nonneg _)) rfl ?_ (by with_unfolding_all rfl) (fun _ => rfl) (Nat.le_of_ble_eq_true rfl)
    intro D2 ws2 h2 F2 N2 l2 hI2 hc2 hle2
    clear F1
    k_steps
    refine Hold.out ?_
    rename Fr _ _ _ _ => F2
    rename News _ _ _ _ => N2
    refine kmk_add_ints F2 N2 (News.isList N2 (.tail _ (.tail _ (.tail _ (.head _))))) (News.isList N2 (.head _)) hI8 hI2 ?_ ?z1
    case z1 =>
      have z4 := draws_len (f := fun k' => k'.fmod (10 ^ Int.toNat 6)) (c := ws9.length) hI4.length
      rw [List.length_append] at z4
      rw [Int.toNat_natCast, List.size_toArray, sizeLine_eq]
      omega
    intro Dd us h3 F3 N3 l3 hI3
    rw [Int.toNat_natCast, List.size_toArray] at hI3
    obtain ⟨d0, d1, d2, d3, t0, t1, t2, t3, rfl, ed⟩ := four_of hI3 (draws_len hI4.length)
    have hr3 := draws_range (x := x9) (c := ws9.length)
    rw [ed] at hr3
    have hI3' : IntsAre [.int d0 t0, .int d1 t1, .int d2 t2, .int d3 t3] [d0, d1, d2, d3] := .cons d0 t0 (.cons d1 t1 (.cons d2 t2 (.cons d3 t3 .nil)))
    have N4 : News _ _ h3 [(Dd, listOf #[.int d0 t0, .int d1 t1, .int d2 t2, .int d3 t3] 0)] := fun p hp => N3 p (by rw [List.mem_singleton.mp hp]; exact .head _)
    clear F2 N2 N3 N1 hI3 hI2 hI8 hI4 hc2 hle2 l2 l3 ed
    simp only [List.mem_cons, List.not_mem_nil, or_false, forall_eq_or_imp, forall_eq] at hr3
    k_steps
    refine Hold.out ?_
    rename Fr _ _ _ _ => F5
    rename News _ _ _ _ => N5
    refine LSm.sum_ints F5 N5 (by rfl) (News.isList N5 (.head _)) hI3' ?_
    intro h6 tk6 t6 F6 N6
    clear F5 N5
    generalize htot : [d0, d1, d2, d3].sum = total
    k_steps
    refine Hold.out ?_
    refine compRest_indN (fun i ys nw => nw = [(Dd, _)] ∧ IntsAre ys (([d0, d1, d2, d3].take i).map fun d => (d.fdiv 12).fmod 2 + 1)) ⟨rfl, .nil⟩ ?_ ?_
    · rintro i ys nw v I oI C oC D m₂ h tk E' hi ⟨rfl, hJ⟩ hP hC hx F N off ne
      obtain ⟨t9, rfl, ht9⟩ := four_get hP
      k_steps
      rename Fr _ _ _ _ => F7
      rename News _ _ _ _ => N7
      refine LCg.CompEnd.intro F7 N7 _ (by intro p hp; exact hp) (by assumption) (.inr ⟨_, .head _, rfl, _, rfl⟩) ⟨rfl, ?_⟩
      rw [ht9, List.map_append]
      exact ints_snoc hJ
    rintro ys nw ⟨rfl, hJ⟩
    obtain ⟨p0, p1, p2, p3, v0, v1, v2, v3, rfl, ep⟩ := four_of hJ rfl
    obtain ⟨hp0, hp1, hp2, hp3⟩ : (d0.fdiv 12).fmod 2 + 1 = p0 ∧ (d1.fdiv 12).fmod 2 + 1 = p1 ∧ (d2.fdiv 12).fmod 2 + 1 = p2 ∧ (d3.fdiv 12).fmod 2 + 1 = p3 := by
      simp only [List.take, List.map_cons, List.map_nil, List.cons.injEq, and_true] at ep
      exact ep
    unfold LCg.FinA
    intro Dp h6 tk6' F6' N6' o6
    k_steps
    refine Hold.out ?_
    rename Fr _ _ _ _ => F7
    rename News _ _ _ _ => N7
    refine kmk_add_lit F7 N7 (zs := [.int total t6, .int d0 t0, .int d1 t1, .int d2 t2, .int d3 t3]) (News.isList N7 (.head _)) (News.isList N7 (.tail _ (.tail _ (.head _)))) (by rfl) ?_ (Nat.le_of_ble_eq_true rfl)
    intro De h8 F8 N8 l8
    clear F7 N7
    k_steps
    refine Hold.out ?_
    rename Fr _ _ _ _ => F9
    rename News _ _ _ _ => N9
    refine enum_src (vs := [.int total t6, .int d0 t0, .int d1 t1, .int d2 t2, .int d3 t3]) (fun i ys => StrsAre ys ((namesL [total, d0, d1, d2, d3]).take i)) (by decide) (by rfl) (by rfl) (by rfl) (by decide) (by rfl) F9 N9 (.head _) (Nat.le_of_ble_eq_true rfl) .nil ?_ ?_
    · intro i ys x t e oe it oi C oC D m₂ h tk E' hx hJ hC ha hb F N
      obtain ⟨hi, tx, rfl⟩ := five_get hx
      obtain ⟨hn1, hn2⟩ := num_eq (l := [total, d0, d1, d2, d3]) hi
      k_steps
      refine Hold.out ?_
      rename Fr _ _ _ _ => F13
      rename News _ _ _ _ => N13
      refine lawword_use (by rw [hn1]; exact apL_16 hn2) (by rw [hn1]; exact hn2) (by k_asm) F13 (by k_asm) N13 (by k_asm) (by first | exact rfl | assumption) (by ktr_room) (by ktr_units) ?_
      intro t14 h14 tk14 F14 N14
      rw [hn1]
      refine ⟨_, _, rfl, F14, N14, ?_⟩
      rw [names_take hi]
      exact hJ.snoc
    · intro D C ys h tk m' hJ F N hn hC0 hCL hDC offC
      refine fin_assign (by rfl) (by rfl) (by rfl) F N hn hC0 hCL hDC offC ?_
      intro h11 tk11 F11 N11
      obtain ⟨u0, u1, u2, u3, u4, rfl⟩ := five_strs hJ
      clear F N hn F9 N9
      have N12 : News _ _ h11 [(Dd, listOf #[.int d0 t0, .int d1 t1, .int d2 t2, .int d3 t3] 0), (_, _), (D, _)] := fun p hp => by
        rcases List.mem_cons.mp hp with rfl | hp
        · exact N11 _ (.tail _ (.tail _ (.tail _ (.tail _ (.head _)))))
        rcases List.mem_cons.mp hp with rfl | hp
        · exact N11 _ (.tail _ (.tail _ (.tail _ (.head _))))
        rcases List.mem_cons.mp hp with rfl | hp
        · exact N11 _ (.head _)
        · exact absurd hp (by simp)
      clear N11
      k_steps
      refine Hold.out ?_
      (try dsimp only)
      refine kba_turn (value' := Expr.Name (Str.ofString "_") ⟨0, 0, 0, 0⟩) (fun _ => rfl) ?_
      rename News _ _ _ _ => N13
      obtain ⟨w0, w3⟩ := fm_range (total.fdiv 4) (b := 3) (by decide)
      refine ksa_sub N13 (.head _) (IntsAre.cons 4677 _ (.cons 35244 _ (.cons 52719 _ .nil))) w0 w3 (by omega) ?_
      intro t15
      have w3' : ((total.fdiv 4).fmod 3).toNat < 3 := by omega
      obtain ⟨lw1, lw2, lw3⟩ := let_word w3'
      generalize hw9 : ((total.fdiv 4).fmod 3).toNat = w9 at *
      have N14 := News.tl N13
      clear N13
      k_steps
      refine Hold.out ?_
      rename Fr _ _ _ _ => F15
      refine lawword_use lw3 lw2 (by k_asm) F15 (by k_asm) N14 (by k_asm) (by first | exact rfl | assumption) (by ktr_room) (by ktr_units) ?_
      intro t16 h16 tk16 F16 N16
      rw [lw1]
      clear F15 N14
      k_steps
      refine Hold.out ?_
      rename Fr _ _ _ _ => F17
      rename News _ _ _ _ => N17
      obtain ⟨m0, m4⟩ := fm_range total (b := 4) (by decide)
      refine marks_use m0 m4 (by k_asm) F17 (by k_asm) N17 (by k_asm) (by first | exact rfl | assumption) (by ktr_room) (by ktr_units) ?_
      intro Dm tm um h18 tk18 F18 N18 l18
      obtain ⟨mA, mB⟩ := mark_S m0 m4
      rw [mA, mB] at N18
      have hz4 : (total.fmod 4).toNat < 4 := by omega
      generalize hz9 : (total.fmod 4).toNat = z9 at *
      have N19 : News _ _ h18 [(Dd, listOf #[.int d0 t0, .int d1 t1, .int d2 t2, .int d3 t3] 0), (_, _), (Dm, _), (D, _)] := fun p hp => by
        rcases List.mem_cons.mp hp with rfl | hp
        · exact N18 _ (.tail _ (.head _))
        rcases List.mem_cons.mp hp with rfl | hp
        · exact N18 _ (.tail _ (.tail _ (.head _)))
        rcases List.mem_cons.mp hp with rfl | hp
        · exact N18 _ (.head _)
        rcases List.mem_cons.mp hp with rfl | hp
        · exact N18 _ (.tail _ (.tail _ (.tail _ (.head _))))
        · exact absurd hp (by simp)
      clear F17 N17 N18 mA mB l18
      k_steps
      refine Hold.out ?_
      rename Fr _ _ _ _ => F20
      rename News _ _ _ _ => N20
      obtain ⟨⟨r0, s0⟩, ⟨r1, s1⟩, ⟨r2, s2⟩, r3, s3⟩ := hr3
      refine texts_use r0 r1 r2 r3 s0 s1 s2 s3 (word_ok w9).1 (word_ok w9).2 (mk_ok z9).1 (mk_ok z9).2 (by k_asm) F20 (by k_asm) N20 (by k_asm) (by first | exact rfl | assumption) (by ktr_room) (by ktr_units) ?_
      intro Tx h21 tk21 xs cx F21 N21 hX
      obtain ⟨g0, g2⟩ := fm_range (total.fdiv 96) (b := 2) (by decide)
      have hzz : ((total.fdiv 96).fmod 2).toNat < 2 := by omega
      have hmk : 3 * (total.fdiv 96).fmod 2 = 3 * (((total.fdiv 96).fmod 2).toNat : Int) := by omega
      generalize hzz9 : ((total.fdiv 96).fmod 2).toNat = zz at *
      obtain ⟨ba, eba⟩ := price_b (d0.fdiv 12)
      obtain ⟨bb, ebb⟩ := price_b (d1.fdiv 12)
      obtain ⟨bc, ebc⟩ := price_b (d2.fdiv 12)
      obtain ⟨bd, ebd⟩ := price_b (d3.fdiv 12)
      rw [hp0] at eba
      rw [hp1] at ebb
      rw [hp2] at ebc
      rw [hp3] at ebd
      subst eba ebb ebc ebd
      rw [xs_txt (p0 := pN ba) (p1 := pN bb) (p2 := pN bc) (p3 := pN bd) w3' (Pf ba bb bc bd) hmk rfl rfl rfl rfl] at hX
      obtain ⟨y0, y1, y2, y3, y4, rfl⟩ := five_strs hX
      clear F20 N20
      k_steps
      refine Hold.out ?_
      refine eval_split (if (total.fdiv 48).fmod 2 = 0 then 2 ^ ((total.fdiv 12).fmod 4 + 1).toNat else -2 ^ ((total.fdiv 12).fmod 4 + 1).toNat) ?_ ?_
      · (with_reducible refine IfExp_ ?_)
        k_steps
        all_goals first
          | exact ⟨_, _, by rw [if_pos (by assumption)], rfl⟩
          | exact ⟨_, _, by rw [if_neg (by assumption)], rfl⟩
      · intro tb tkb
        generalize hb9 : (if (total.fdiv 48).fmod 2 = 0 then 2 ^ ((total.fdiv 12).fmod 4 + 1).toNat else -2 ^ ((total.fdiv 12).fmod 4 + 1).toNat) = b
        obtain ⟨k0, k4⟩ := fm_range (total.fdiv 12) (b := 4) (by decide)
        obtain ⟨hb16, hbP, hb62⟩ := base_ok k0 k4 hb9
        k_steps
        refine Hold.out ?_
        rename Fr _ _ _ _ => F23
        rename News _ _ _ _ => N23
        have N24 : News _ _ _ [(Dd, listOf #[.int d0 t0, .int d1 t1, .int d2 t2, .int d3 t3] 0), (D, _), (_, _), (Tx, _)] := fun p hp => by
          rcases List.mem_cons.mp hp with rfl | hp
          · exact N23 _ (.tail _ (.head _))
          rcases List.mem_cons.mp hp with rfl | hp
          · exact N23 _ (.tail _ (.tail _ (.tail _ (.tail _ (.head _)))))
          rcases List.mem_cons.mp hp with rfl | hp
          · exact N23 _ (.tail _ (.tail _ (.head _)))
          rcases List.mem_cons.mp hp with rfl | hp
          · exact N23 _ (.head _)
          · exact absurd hp (by simp)
        clear N23
        refine table_use (.head _) (.tail _ (.head _)) (plain5 _) (by k_asm) F23 (by k_asm) N24 (by k_asm) (by first | exact rfl | assumption) (by ktr_room) (by ktr_units) ?_
        intro H h25 tk25 new F25 N25 hTab hmem
        have mDn := hmem _ (.tail _ (.head _))
        have mDp := hmem _ (.tail _ (.tail _ (.head _)))
        have mTx := hmem _ (.tail _ (.tail _ (.tail _ (.head _))))
        have N26 := News.more2 N25 mTx mTx
        clear F23 N24 N25 hmem
        k_steps
        refine Hold.out ?_
        rename Fr _ _ _ _ => F27
        rename News _ _ _ _ => N27
        refine powers_use (lev5 w3' hz4 hzz (Pf ba bb bc bd) _ _ _) hb16 (by k_asm) F27 (by k_asm) N27 (by k_asm) (by first | exact rfl | assumption) (by ktr_room) (by ktr_units) ?_
        intro Tl R rows nT h28 tk28 F28 N28 hRI
        clear F27 N27
        k_steps
        refine Hold.out ?_
        rename Fr _ _ _ _ => F29
        rename News _ _ _ _ => N29
        obtain ⟨dx, HL, tkd, nd, ts, nH, hH, hdx, hHL, hTu⟩ := hTab
        have up := led_up N29
        refine agree_use (R := R) (rows := rows) (nT := nT) (M := fun si => matRow [txt w9 z9 zz (Pf ba bb bc bd) (bitP (d1 % 2).toNat (d2 % 3).toNat (d3 % 4).toNat 0), txt w9 z9 zz (Pf ba bb bc bd) (bitP (d1 % 2).toNat (d2 % 3).toNat (d3 % 4).toNat 1), txt w9 z9 zz (Pf ba bb bc bd) (bitP (d1 % 2).toNat (d2 % 3).toNat (d3 % 4).toNat 2), txt w9 z9 zz (Pf ba bb bc bd) (bitP (d1 % 2).toNat (d2 % 3).toNat (d3 % 4).toNat 3), txt w9 z9 zz (Pf ba bb bc bd) (bitP (d1 % 2).toNat (d2 % 3).toNat (d3 % 4).toNat 4)] b 5 0 si)
          (ps := pairsOf (apL (numOf (eOf [total, d0, d1, d2, d3]) 0)) (apL (numOf (eOf [total, d0, d1, d2, d3]) 1)) (apL (numOf (eOf [total, d0, d1, d2, d3]) 2)) (apL (numOf (eOf [total, d0, d1, d2, d3]) 3)) (apL (numOf (eOf [total, d0, d1, d2, d3]) 4)) d0 d1 d2 d3)
          (nb := nbq (d1 % 2).toNat (d2 % 3).toNat (d3 % 4).toNat)
          (up _ mDn) (up _ mDp) ⟨dx, HL, tkd, nd, ts, nH, up _ hH, up _ hdx, up _ hHL, hTu.mono up⟩ (.head _) (names_dist rfl rfl rfl rfl rfl) (plain5 _) ?a1 (by show 8 ≤ 100; decide) hb16 ?a2 (fun p hp => nb_ok rfl rfl rfl rfl rfl hp) (fun i hi => ⟨rows_mem hi, hRI i hi, matRow_len _ _ _ _ _⟩) ?a3 ?a4 hb62 ?a5 ?a6 (by k_asm) F29 (by k_asm) N29 (by k_asm) (by first | exact rfl | assumption) (by ktr_room) (by ktr_units) ?a7
        case a1 => exact pairs_plain _ _ _ _ (plain5 _)
        case a2 => exact price_v _ _ _ _
        case a3 =>
          intro p si hp hs
          exact the_id (by omega) (by omega) (by omega) hp hs ba bb bc bd b _ fun j hj => mat_pow w3' hz4 hzz (Pf ba bb bc bd) _ _ _ b hs hj
        case a4 => rw [hbP, List.length_replicate]; omega
        case a5 => rw [mul_P k0 k4]; unfold apS; rw [hbP]
        case a6 =>
          intro i j hi hj
          rw [mat_pow w3' hz4 hzz (Pf ba bb bc bd) _ _ _ b hi hj]
          exact pow_le hb16 (dN_le _ _ _)
        intro h30 tk30 F30 N30
        k_steps)
end Mine
theorem PySem.Challenge.cw_tp0055_01_holds : PySem.Challenge.rw_tp0055_01.Holds :=
  Mine.lawW
