import PyProof.Rows.All
import Wide.All
import OpenK.AllK
import Wide.FinOn
import PyProof.NeKinds
import PyProof.SumWalkG
import KE.KLcPair
import Lean
import PySem.Challenge.RW_rw0037_01
open PySem PySem.W PyProof.Rows
set_option Elab.async false
set_option maxRecDepth 100000
set_option maxHeartbeats 8000000
namespace Mine
open_top hd for PySem.Challenge.rw_rw0037_01
end Mine
local macro_rules | `(tactic| walk_at $s:str) => `(tactic| k_extra $s)
local macro_rules | `(tactic| k_mem) => `(tactic| k_extra "k_mem")
local macro_rules | `(tactic| k_all) => `(tactic| k_extra "k_all")
local macro_rules | `(tactic| k_ne) => `(tactic| k_extra "k_ne")
local macro_rules | `(tactic| lcg_src) => `(tactic| k_extra "lcg_src")
local macro_rules | `(tactic| is_list) => `(tactic| k_extra "is_list")
local macro_rules | `(tactic| k_room) => `(tactic| ktr_room)
theorem Mine.Off.t1 : True := by
  w_top off
  first | (walk1; done) | trivial
section
open PySem PySem.W PyProof.Rows

namespace Mine.Hi
structure Hid (M : Model) (A : Around) (env : Env) (rest : List Stmt) (Q : Flow → Shared → Prop) (E : Value → Shared → Prop) (Q1 : Flow → Shared → Prop) : Prop where
  nxt : ∀ s', wpAny M A (execs rest env) Q E s' → Q1 .next s'
  oth : ∀ f s', f ≠ .next → Q f s' → Q1 f s'
theorem ex_hid {M : Model} {A : Around} {env : Env} {st st2 : Stmt} {rest : List Stmt} {Q : Flow → Shared → Prop} {E : Value → Shared → Prop} {s : Shared} (h : ∀ Q1, Hid M A env (st2 :: rest) Q E Q1 → wpAny M A (exec st env) Q1 E s) : wpAny M A (execs (st :: st2 :: rest) env) Q E s := by
  refine wpAny_execs_cons (h _ ⟨fun _ h => h, fun f s' hf hq => ?_⟩)
  cases f <;> first | exact absurd rfl hf | exact hq
structure HidV {α : Type} (Q0 Q1 : α → Shared → Prop) : Prop where
  out : ∀ v s', Q0 v s' → Q1 v s'
theorem post_hid {α : Type} {M : Model} {A : Around} {act : Sem α} {Q0 : α → Shared → Prop} {E : Value → Shared → Prop} {s : Shared} (h : ∀ Q1, HidV Q0 Q1 → wpAny M A act Q1 E s) : wpAny M A act Q0 E s := h _ ⟨fun _ _ h => h⟩
noncomputable def VJ (s : Shared) (res : Int → Tok → Value) (v : Int) (y : Value) (s' : Shared) : Prop := ∃ t tk, y = res v t ∧ s' = { s with toks := tk }
noncomputable def VSpec (prog : Program) (w : World) (A : Around) (sc : Scope) (cells : List (Str × Addr)) (env : Env) (elt : PySem.Expr) (g : Heap) (L : Addr) (mm : Str → Option Value) (kp : Addr × Obj) (x : Str) (res : Int → Tok → Value) : Prop :=
  ∀ (E : Value → Shared → Prop) (I : Addr) (oI : Obj) (C : Addr) (oC : Obj) (D : Addr) (oD : Obj) (nw : List (Addr × Obj)) (m' : Str → Option Value) (v : Int) (u : Tok) (s : Shared), LCg.NsObj oC m' → m' x = some (.int v u) → Fr g L s.heap mm → News g L s.heap ((I, oI) :: (C, oC) :: (D, oD) :: nw) → kp ∈ nw →
    wpAny (model prog w) A (eval elt (compEnvC sc cells C env)) (VJ s res v) E s
theorem v_with {prog : Program} {w : World} {A : Around} {env : Env} {elt tgt : PySem.Expr} {gens : List Comprehension} {sc : Scope} {pos pos2 : Pos} {g : Heap} {L : Addr} {mm : Str → Option Value} {Q : Flow → Shared → Prop} {E : Value → Shared → Prop} {s : Shared} {o : Obj} {tt : Tok} (cells : List (Str × Addr)) (c : Addr) (pv : Int) (x : Str) (res : Int → Tok → Value) (_F : Fr g L s.heap mm) (_d : o.data = Data.cell (some (.int pv tt)))
    (spec : VSpec prog w A sc cells env elt g L mm (c, o) x res) (go : VSpec prog w A sc cells env elt g L mm (c, o) x res → wpAny (model prog w) A (exec (Stmt.Assign [tgt] (Expr.ListComp elt gens sc pos) pos2) env) Q E s) : wpAny (model prog w) A (exec (Stmt.Assign [tgt] (Expr.ListComp elt gens sc pos) pos2) env) Q E s := go spec
theorem v_use {prog : Program} {w : World} {A : Around} {env : Env} {elt : PySem.Expr} {sc : Scope} {cells : List (Str × Addr)} {g : Heap} {L : Addr} {mm m' : Str → Option Value} {kp : Addr × Obj} {x : Str} {res : Int → Tok → Value} {I C D : Addr} {oI oC oD : Obj} {nw : List (Addr × Obj)} {v : Int} {u : Tok} {s : Shared} {Q E : Value → Shared → Prop} (H : VSpec prog w A sc cells env elt g L mm kp x res)
    (hC : LCg.NsObj oC m') (hx : m' x = some (.int v u)) (F : Fr g L s.heap mm) (N : News g L s.heap ((I, oI) :: (C, oC) :: (D, oD) :: nw)) (h1 : kp ∈ nw)
    (cont : ∀ t tk, Q (res v t) { s with toks := tk }) :
    wpAny (model prog w) A (eval elt (compEnvC sc cells C env)) Q E s := by
  refine wpAny_mono (H E I oI C oC D oD nw m' v u s hC hx F N h1) ?_ (fun _ _ e => e)
  rintro y s' ⟨t, tk, rfl, rfl⟩
  exact cont t tk
theorem vj_if {M : Model} {A : Around} {e : PySem.Expr} {env : Env} {v pv : Int} {s : Shared} {E : Value → Shared → Prop} {res : Int → Tok → Value} {J : Int → Value → Shared → Prop} {r1 r2 : Int} (hJ : ∀ r, J r = fun y s' => ∃ t tk, y = .int r t ∧ s' = { s with toks := tk }) (e1 : v = pv → ∀ t, res v t = .int r1 t) (e2 : v ≠ pv → ∀ t, res v t = .int r2 t)
    (st1 : v = pv → wpAny M A (eval e env) (J r1) E s) (st2 : v ≠ pv → wpAny M A (eval e env) (J r2) E s) : wpAny M A (eval e env) (VJ s res v) E s := by
  by_cases h : v = pv
  · refine wpAny_mono (st1 h) ?_ (fun _ _ e => e)
    intro y s' hj
    rw [hJ] at hj
    obtain ⟨t, tk, rfl, rfl⟩ := hj
    exact ⟨t, tk, (e1 h t).symm, rfl⟩
  · refine wpAny_mono (st2 h) ?_ (fun _ _ e => e)
    intro y s' hj
    rw [hJ] at hj
    obtain ⟨t, tk, rfl, rfl⟩ := hj
    exact ⟨t, tk, (e2 h t).symm, rfl⟩
theorem hideG {P : Prop} (h : ∀ G : Prop, (P → G) → G) : P := h P id
end Mine.Hi
end
theorem Mine.Off.t2 : True := by
  w_top off
  first | (walk1; done) | trivial
section
open Mine.Hi
open PySem PySem.W PyProof.Rows



namespace Mine.F3
section
variable {w : World} {p : Program} {loose : List Str} {mean : ExcName → Option Value} {mg mb : Str → Option Value}
  {dp un : Nat} {gd : Option (List Code)} {cn : Str} {cs : Scope} {a : Addr} {ccd : Value} {cl : List (Str × Addr)} {outer : List Env} {A₀ : Around} {base h₀ : Heap} {L : Addr} {m : Str → Option Value} {news : List (Addr × Obj)} {s : Shared}
    {Q E : Value → Shared → Prop}

theorem news_tup {h₀ h : Heap} {L a : Addr} {items : Array Value} {n : Nat} {news : List (Addr × Obj)} (N : News h₀ L h news) (hm : (a, ({ cls := .type "tuple", data := .seq items n } : Obj)) ∈ news) : IsTup h a items := ⟨_, (N _ hm).1, rfl, _, rfl⟩
noncomputable def escS (c r x : Str) : Str := if (Builtin.Str.occurrences x c 0 x.length 1).isEmpty = true then x else Txt.replace x c r
theorem escS_no {c r x : Str} (h : (Builtin.Str.occurrences x c 0 x.length 1).isEmpty = true) : escS c r x = x := if_pos h
theorem escS_yes {c r x : Str} (h : (Builtin.Str.occurrences x c 0 x.length 1).isEmpty = false) : escS c r x = Txt.replace x c r := if_neg (by rw [h]; exact Bool.false_ne_true)
theorem escS_yes' {c r x : Str} (h : ¬ (Builtin.Str.occurrences x c 0 x.length 1).isEmpty = true) : escS c r x = Txt.replace x c r := if_neg h
noncomputable def EscJ (g : Heap) (L : Addr) (news : List (Addr × Obj)) (s : Shared) (x : Str) (f : Flow) (s' : Shared) : Prop :=
  f = .next ∧ ∃ h2 tk2 t2, s' = { s with heap := h2, toks := tk2 } ∧ tk2 ≠ 0 ∧ Fr g L h2 (fun y => if y = Str.ofString "text" then some (.str x t2) else none) ∧ News g L h2 news
theorem fr_lemA (v : Value) : ∀ y : Str, List.lookup y [(Str.ofString "text", v)].reverse = (fun y => if y = Str.ofString "text" then some v else none) y := by
  intro y
  show List.lookup y [(Str.ofString "text", v)] = _
  rw [List.lookup_cons]
  by_cases h : y = Str.ofString "text"
  · subst h; simp
  · have : (y == Str.ofString "text") = false := by simpa using h
    rw [this]; simp [h]
theorem fr_lemB (v : Value) (g : Str → Option Value) (h : ∀ y, y ≠ Str.ofString "text" → g y = none) : ∀ y : Str, (fun y => if y = Str.ofString "text" then some v else g y) y = (fun y => if y = Str.ofString "text" then some v else none) y := by
  intro y
  by_cases h1 : y = Str.ofString "text"
  · subst h1; simp
  · simp [h1, h y h1]
theorem fr_lemC (v v' : Value) : ∀ y : Str, (fun y => if y = Str.ofString "text" then some v else (fun y => if y = Str.ofString "text" then some v' else none) y) y = (fun y => if y = Str.ofString "text" then some v else none) y := by
  intro y
  by_cases h1 : y = Str.ofString "text"
  · subst h1; simp
  · simp [h1]
theorem fr_lemD (v v' : Value) : ∀ y : Str, (fun y => if y = Str.ofString "text" then some v else List.lookup y [(Str.ofString "text", v')].reverse) y = (fun y => if y = Str.ofString "text" then some v else none) y := by
  intro y
  have := fr_lemA v' y
  by_cases h1 : y = Str.ofString "text"
  · subst h1; simp
  · simp only [h1, if_false] at this ⊢; exact this
theorem escJ_no {g : Heap} {L : Addr} {news : List (Addr × Obj)} {s : Shared} {c r x : Str} {h : Heap} {tk : Nat} {t : Tok} {m : Str → Option Value} (F : Fr g L h m) (N : News g L h news) (hc : (Builtin.Str.occurrences x c 0 x.length 1).isEmpty = true) (h0 : tk ≠ 0)
    (hm : ∀ y, m y = (fun y => if y = Str.ofString "text" then some (.str x t) else none) y) : EscJ g L news s (escS c r x) .next { s with heap := h, toks := tk } := by
  rw [escS_no hc]
  exact ⟨rfl, h, tk, t, rfl, h0, (funext hm : m = _) ▸ F, N⟩
theorem escJ_yes {g : Heap} {L : Addr} {news : List (Addr × Obj)} {s : Shared} {c r x : Str} {h : Heap} {tk : Nat} {t : Tok} {m : Str → Option Value} (F : Fr g L h m) (N : News g L h news) (hc : (Builtin.Str.occurrences x c 0 x.length 1).isEmpty = false) (h0 : tk ≠ 0)
    (hm : ∀ y, m y = (fun y => if y = Str.ofString "text" then some (.str (Txt.replace x c r) t) else none) y) : EscJ g L news s (escS c r x) .next { s with heap := h, toks := tk } := by
  rw [escS_yes hc]
  exact ⟨rfl, h, tk, t, rfl, h0, (funext hm : m = _) ▸ F, N⟩
theorem fr_ext {h₀ h : Heap} {L : Addr} {m m' : Str → Option Value} (F : Fr h₀ L h m) (e : ∀ y, m y = m' y) : Fr h₀ L h m' := (funext e : m = m') ▸ F
noncomputable abbrev esc1 (x : Str) : Str := escS (Str.ofString "&") (Str.ofString "&amp;") x
noncomputable abbrev esc2 (x : Str) : Str := escS (Str.ofString "<") (Str.ofString "&lt;") (esc1 x)
noncomputable abbrev esc3 (x : Str) : Str := escS (Str.ofString ">") (Str.ofString "&gt;") (esc2 x)
noncomputable abbrev esc4 (x : Str) : Str := escS (Str.ofString "\"") (Str.ofString "&quot;") (esc3 x)
noncomputable abbrev esc5 (x : Str) : Str := escS (Str.ofString "\r") (Str.ofString "&#13;") (esc4 x)
noncomputable abbrev esc6 (x : Str) : Str := escS (Str.ofString "\n") (Str.ofString "&#10;") (esc5 x)
noncomputable abbrev esc7 (x : Str) : Str := escS (Str.ofString "\t") (Str.ofString "&#09;") (esc6 x)
noncomputable def escF (x : Str) : Str := esc7 x
theorem esc_call {tx : Str} {t1 : Tok}
    (B : Below A₀ base outer h₀) (F : Fr h₀ L s.heap m) (X : (hd.heap_39 w.params).In h₀) (N : News h₀ L s.heap news) (T : Top p loose mean mg mb h₀) (hk : cs.kind = .function)
    (hd : dp + 1 < recursionLimit) (hu : un + 8 < cLine) (hz0 : tx.length ≤ 1000) (hz1 : (esc1 tx).length ≤ 1000) (hz2 : (esc2 tx).length ≤ 1000) (hz3 : (esc3 tx).length ≤ 1000) (hz4 : (esc4 tx).length ≤ 1000) (hz5 : (esc5 tx).length ≤ 1000) (hz6 : (esc6 tx).length ≤ 1000)
    (hret : ∀ t h' tk', Fr h₀ L h' m → News h₀ L h' news →  Q (.str (escF tx) t) { s with heap := h', toks := tk' }) :
    wpAny (model PySem.Challenge.rw_rw0037_01.row.prog w) (ktrTop dp un gd cn cs L a ccd cl outer) (call (.ref 63) [.str tx t1]) Q E s := by
  k_with_none
  k_with "execs cons" => (first | (k_here; k_gentoks) | (k_here; k_made) | ((with_reducible refine Mine.Hi.ex_hid ?_); intro qH'Q hH'Q; (try dsimp only)))
  k_with "execs nil" => (refine wpAny_execs_nil ?_)
  k_with "execs cons" => (((with_reducible refine wpAny_execs_cons ?_); try dsimp only))
  k_with "call builtin:str.replace" => ((refine SC.replace (by omega) (by omega) (by omega) (by decide +kernel) ?hbK ?_; (case hbK => first | omega | (show _ + _ * _ ≤ _; (generalize hl9 : Str.length (Str.ofString _) = n9; have hn9 : n9 = 5 ∨ n9 = 4 ∨ n9 = 6 := (by rw [← hl9]; decide +kernel)); (rcases hn9 with e9 | e9 | e9 <;> subst e9 <;> omega))); intro _ _))
  revert X
  have hx : PySem.Challenge.rw_rw0037_01 = PySem.Challenge.rw_rw0037_01 := rfl
  revert hx
  k_fill
  intro hx X
  refine wpAny_call ?_
  k_dflt (refine' code_def ?k1 ?k2 ?k3 ?k4 ?k5 ?kA ?kF ?kK ?k6 ?k7 ?k8 ?k9 ?kB ?_ ?c2 ?c3 ?c4 ?c5; (case kA => exact rfl); (case kF => exact rfl); (case kK => assumption); (case k1 => k_asm); (case k2 => k_asm); (case k3 => k_asm); (case k4 => k_asm); (case k5 => k_asm); (case k6 => k_is); (case k7 => k_is); (case k8 => ktr_room); (case k9 => exact BindsTo.of_eq rfl); (case c5 => decide); (case kB => exact locs rfl); (case c2 => exact rfl); (case c3 => exact rfl); (case c4 => exact rfl); k_whole; intro g' L' h' FG' F' N' B' X' T'; (try dsimp only); (try k_fold))
  generalize hX : s.toks + _ = tk0
  have h0 : tk0 ≠ 0 := by rw [← hX]; exact Nat.succ_ne_zero _
  clear hX
  repeat' ((fail_if_success (with_reducible show wpAny _ _ (exec (Stmt.If _ _ _ _) _) _ _ _)); first | (((fail_if_success (with_reducible show wpAny _ _ _ _ _ _)); first | (refine Mine.Hi.HidV.out (by with_reducible assumption) _ _ ?_) | (refine Mine.Hi.Hid.nxt (by with_reducible assumption) _ ?_) | (refine Mine.Hi.Hid.oth (by with_reducible assumption) _ _ (fun h => nomatch h) ?_)); (try dsimp only)) | (k_unfold; (try dsimp only)) | (k_end; wrow_close) | ((with_reducible show wpAny _ _ (PySem.evalPart _ _) _ _ _); walk1) | ((with_reducible show wpAny _ _ (PyProof.Rows.subscriptTail _ _ _ _) _ _ _); walk1) | (walk1 <;> (try ((fail_if_success (with_reducible show wpAny _ _ (PyProof.Rows.subscriptTail _ _ _ _) _ _ _)); dsimp only))) | (dsimp only; walk1 <;> (try ((fail_if_success (with_reducible show wpAny _ _ (PyProof.Rows.subscriptTail _ _ _ _) _ _ _)); dsimp only))) | (leave1; walk_say "STEP leave1"; try dsimp only))
  refine wpAny_mono (Q := EscJ g' L' news s (esc1 tx)) ?_ ?_ (fun _ _ e => e)
  · repeat' (first | (((fail_if_success (with_reducible show wpAny _ _ _ _ _ _)); first | (refine Mine.Hi.HidV.out (by with_reducible assumption) _ _ ?_) | (refine Mine.Hi.Hid.nxt (by with_reducible assumption) _ ?_) | (refine Mine.Hi.Hid.oth (by with_reducible assumption) _ _ (fun h => nomatch h) ?_)); (try dsimp only)) | (k_unfold; (try dsimp only)) | (k_end; wrow_close) | ((with_reducible show wpAny _ _ (PySem.evalPart _ _) _ _ _); walk1) | ((with_reducible show wpAny _ _ (PyProof.Rows.subscriptTail _ _ _ _) _ _ _); walk1) | (walk1 <;> (try ((fail_if_success (with_reducible show wpAny _ _ (PyProof.Rows.subscriptTail _ _ _ _) _ _ _)); dsimp only))) | (dsimp only; walk1 <;> (try ((fail_if_success (with_reducible show wpAny _ _ (PyProof.Rows.subscriptTail _ _ _ _) _ _ _)); dsimp only))) | (leave1; walk_say "STEP leave1"; try dsimp only) | fail "no step")
    all_goals first
      | k_data
      | (refine' escJ_no ?f ?n ?c ?z ?m
         (case c => assumption)
         (case f => k_asm)
         (case n => k_asm)
         (case z => (show _ + _ ≠ 0); omega)
         (case m => first | exact fr_lemA _ | exact fun _ => rfl))
      | (refine' escJ_yes ?f ?n ?c ?z ?m
         (case c => assumption)
         (case f => k_asm)
         (case n => k_asm)
         (case z => (show _ + _ ≠ 0); omega)
         (case m => first | exact fr_lemD _ _ | exact fr_lemC _ _))
      | skip
    done
  intro f2 s2 hHid
  refine Mine.Hi.hideG (fun G hG => ?_)
  obtain ⟨eH1, h2, tk2, t2, eH2, h02, F2, N2⟩ := hHid
  refine hG ?_
  clear hG
  subst eH1 eH2
  (try dsimp only)
  try k_fold
  clear h0
  have h0 := h02
  clear h02
  repeat' ((fail_if_success (with_reducible show wpAny _ _ (exec (Stmt.If _ _ _ _) _) _ _ _)); first | (((fail_if_success (with_reducible show wpAny _ _ _ _ _ _)); first | (refine Mine.Hi.HidV.out (by with_reducible assumption) _ _ ?_) | (refine Mine.Hi.Hid.nxt (by with_reducible assumption) _ ?_) | (refine Mine.Hi.Hid.oth (by with_reducible assumption) _ _ (fun h => nomatch h) ?_)); (try dsimp only)) | (k_unfold; (try dsimp only)) | (k_end; wrow_close) | ((with_reducible show wpAny _ _ (PySem.evalPart _ _) _ _ _); walk1) | ((with_reducible show wpAny _ _ (PyProof.Rows.subscriptTail _ _ _ _) _ _ _); walk1) | (walk1 <;> (try ((fail_if_success (with_reducible show wpAny _ _ (PyProof.Rows.subscriptTail _ _ _ _) _ _ _)); dsimp only))) | (dsimp only; walk1 <;> (try ((fail_if_success (with_reducible show wpAny _ _ (PyProof.Rows.subscriptTail _ _ _ _) _ _ _)); dsimp only))) | (leave1; walk_say "STEP leave1"; try dsimp only))
  refine wpAny_mono (Q := EscJ g' L' news s (esc2 tx)) ?_ ?_ (fun _ _ e => e)
  · repeat' (first | (((fail_if_success (with_reducible show wpAny _ _ _ _ _ _)); first | (refine Mine.Hi.HidV.out (by with_reducible assumption) _ _ ?_) | (refine Mine.Hi.Hid.nxt (by with_reducible assumption) _ ?_) | (refine Mine.Hi.Hid.oth (by with_reducible assumption) _ _ (fun h => nomatch h) ?_)); (try dsimp only)) | (k_unfold; (try dsimp only)) | (k_end; wrow_close) | ((with_reducible show wpAny _ _ (PySem.evalPart _ _) _ _ _); walk1) | ((with_reducible show wpAny _ _ (PyProof.Rows.subscriptTail _ _ _ _) _ _ _); walk1) | (walk1 <;> (try ((fail_if_success (with_reducible show wpAny _ _ (PyProof.Rows.subscriptTail _ _ _ _) _ _ _)); dsimp only))) | (dsimp only; walk1 <;> (try ((fail_if_success (with_reducible show wpAny _ _ (PyProof.Rows.subscriptTail _ _ _ _) _ _ _)); dsimp only))) | (leave1; walk_say "STEP leave1"; try dsimp only) | fail "no step")
    all_goals first
      | k_data
      | (refine' escJ_no ?f ?n ?c ?z ?m
         (case c => assumption)
         (case f => k_asm)
         (case n => k_asm)
         (case z => (show _ + _ ≠ 0); omega)
         (case m => first | exact fr_lemA _ | exact fun _ => rfl))
      | (refine' escJ_yes ?f ?n ?c ?z ?m
         (case c => assumption)
         (case f => k_asm)
         (case n => k_asm)
         (case z => (show _ + _ ≠ 0); omega)
         (case m => first | exact fr_lemD _ _ | exact fr_lemC _ _))
      | skip
    done
  intro f2 s2 hHid
  refine Mine.Hi.hideG (fun G hG => ?_)
  obtain ⟨eH1, h2, tk2, t2, eH2, h02, F2, N2⟩ := hHid
  refine hG ?_
  clear hG
  subst eH1 eH2
  (try dsimp only)
  try k_fold
  clear h0
  have h0 := h02
  clear h02
  repeat' ((fail_if_success (with_reducible show wpAny _ _ (exec (Stmt.If _ _ _ _) _) _ _ _)); first | (((fail_if_success (with_reducible show wpAny _ _ _ _ _ _)); first | (refine Mine.Hi.HidV.out (by with_reducible assumption) _ _ ?_) | (refine Mine.Hi.Hid.nxt (by with_reducible assumption) _ ?_) | (refine Mine.Hi.Hid.oth (by with_reducible assumption) _ _ (fun h => nomatch h) ?_)); (try dsimp only)) | (k_unfold; (try dsimp only)) | (k_end; wrow_close) | ((with_reducible show wpAny _ _ (PySem.evalPart _ _) _ _ _); walk1) | ((with_reducible show wpAny _ _ (PyProof.Rows.subscriptTail _ _ _ _) _ _ _); walk1) | (walk1 <;> (try ((fail_if_success (with_reducible show wpAny _ _ (PyProof.Rows.subscriptTail _ _ _ _) _ _ _)); dsimp only))) | (dsimp only; walk1 <;> (try ((fail_if_success (with_reducible show wpAny _ _ (PyProof.Rows.subscriptTail _ _ _ _) _ _ _)); dsimp only))) | (leave1; walk_say "STEP leave1"; try dsimp only))
  refine wpAny_mono (Q := EscJ g' L' news s (esc3 tx)) ?_ ?_ (fun _ _ e => e)
  · repeat' (first | (((fail_if_success (with_reducible show wpAny _ _ _ _ _ _)); first | (refine Mine.Hi.HidV.out (by with_reducible assumption) _ _ ?_) | (refine Mine.Hi.Hid.nxt (by with_reducible assumption) _ ?_) | (refine Mine.Hi.Hid.oth (by with_reducible assumption) _ _ (fun h => nomatch h) ?_)); (try dsimp only)) | (k_unfold; (try dsimp only)) | (k_end; wrow_close) | ((with_reducible show wpAny _ _ (PySem.evalPart _ _) _ _ _); walk1) | ((with_reducible show wpAny _ _ (PyProof.Rows.subscriptTail _ _ _ _) _ _ _); walk1) | (walk1 <;> (try ((fail_if_success (with_reducible show wpAny _ _ (PyProof.Rows.subscriptTail _ _ _ _) _ _ _)); dsimp only))) | (dsimp only; walk1 <;> (try ((fail_if_success (with_reducible show wpAny _ _ (PyProof.Rows.subscriptTail _ _ _ _) _ _ _)); dsimp only))) | (leave1; walk_say "STEP leave1"; try dsimp only) | fail "no step")
    all_goals first
      | k_data
      | (refine' escJ_no ?f ?n ?c ?z ?m
         (case c => assumption)
         (case f => k_asm)
         (case n => k_asm)
         (case z => (show _ + _ ≠ 0); omega)
         (case m => first | exact fr_lemA _ | exact fun _ => rfl))
      | (refine' escJ_yes ?f ?n ?c ?z ?m
         (case c => assumption)
         (case f => k_asm)
         (case n => k_asm)
         (case z => (show _ + _ ≠ 0); omega)
         (case m => first | exact fr_lemD _ _ | exact fr_lemC _ _))
      | skip
    done
  intro f2 s2 hHid
  refine Mine.Hi.hideG (fun G hG => ?_)
  obtain ⟨eH1, h2, tk2, t2, eH2, h02, F2, N2⟩ := hHid
  refine hG ?_
  clear hG
  subst eH1 eH2
  (try dsimp only)
  try k_fold
  clear h0
  have h0 := h02
  clear h02
  repeat' ((fail_if_success (with_reducible show wpAny _ _ (exec (Stmt.If _ _ _ _) _) _ _ _)); first | (((fail_if_success (with_reducible show wpAny _ _ _ _ _ _)); first | (refine Mine.Hi.HidV.out (by with_reducible assumption) _ _ ?_) | (refine Mine.Hi.Hid.nxt (by with_reducible assumption) _ ?_) | (refine Mine.Hi.Hid.oth (by with_reducible assumption) _ _ (fun h => nomatch h) ?_)); (try dsimp only)) | (k_unfold; (try dsimp only)) | (k_end; wrow_close) | ((with_reducible show wpAny _ _ (PySem.evalPart _ _) _ _ _); walk1) | ((with_reducible show wpAny _ _ (PyProof.Rows.subscriptTail _ _ _ _) _ _ _); walk1) | (walk1 <;> (try ((fail_if_success (with_reducible show wpAny _ _ (PyProof.Rows.subscriptTail _ _ _ _) _ _ _)); dsimp only))) | (dsimp only; walk1 <;> (try ((fail_if_success (with_reducible show wpAny _ _ (PyProof.Rows.subscriptTail _ _ _ _) _ _ _)); dsimp only))) | (leave1; walk_say "STEP leave1"; try dsimp only))
  refine wpAny_mono (Q := EscJ g' L' news s (esc4 tx)) ?_ ?_ (fun _ _ e => e)
  · repeat' (first | (((fail_if_success (with_reducible show wpAny _ _ _ _ _ _)); first | (refine Mine.Hi.HidV.out (by with_reducible assumption) _ _ ?_) | (refine Mine.Hi.Hid.nxt (by with_reducible assumption) _ ?_) | (refine Mine.Hi.Hid.oth (by with_reducible assumption) _ _ (fun h => nomatch h) ?_)); (try dsimp only)) | (k_unfold; (try dsimp only)) | (k_end; wrow_close) | ((with_reducible show wpAny _ _ (PySem.evalPart _ _) _ _ _); walk1) | ((with_reducible show wpAny _ _ (PyProof.Rows.subscriptTail _ _ _ _) _ _ _); walk1) | (walk1 <;> (try ((fail_if_success (with_reducible show wpAny _ _ (PyProof.Rows.subscriptTail _ _ _ _) _ _ _)); dsimp only))) | (dsimp only; walk1 <;> (try ((fail_if_success (with_reducible show wpAny _ _ (PyProof.Rows.subscriptTail _ _ _ _) _ _ _)); dsimp only))) | (leave1; walk_say "STEP leave1"; try dsimp only) | fail "no step")
    all_goals first
      | k_data
      | (refine' escJ_no ?f ?n ?c ?z ?m
         (case c => assumption)
         (case f => k_asm)
         (case n => k_asm)
         (case z => (show _ + _ ≠ 0); omega)
         (case m => first | exact fr_lemA _ | exact fun _ => rfl))
      | (refine' escJ_yes ?f ?n ?c ?z ?m
         (case c => assumption)
         (case f => k_asm)
         (case n => k_asm)
         (case z => (show _ + _ ≠ 0); omega)
         (case m => first | exact fr_lemD _ _ | exact fr_lemC _ _))
      | skip
    done
  intro f2 s2 hHid
  refine Mine.Hi.hideG (fun G hG => ?_)
  obtain ⟨eH1, h2, tk2, t2, eH2, h02, F2, N2⟩ := hHid
  refine hG ?_
  clear hG
  subst eH1 eH2
  (try dsimp only)
  try k_fold
  clear h0
  have h0 := h02
  clear h02
  repeat' ((fail_if_success (with_reducible show wpAny _ _ (exec (Stmt.If _ _ _ _) _) _ _ _)); first | (((fail_if_success (with_reducible show wpAny _ _ _ _ _ _)); first | (refine Mine.Hi.HidV.out (by with_reducible assumption) _ _ ?_) | (refine Mine.Hi.Hid.nxt (by with_reducible assumption) _ ?_) | (refine Mine.Hi.Hid.oth (by with_reducible assumption) _ _ (fun h => nomatch h) ?_)); (try dsimp only)) | (k_unfold; (try dsimp only)) | (k_end; wrow_close) | ((with_reducible show wpAny _ _ (PySem.evalPart _ _) _ _ _); walk1) | ((with_reducible show wpAny _ _ (PyProof.Rows.subscriptTail _ _ _ _) _ _ _); walk1) | (walk1 <;> (try ((fail_if_success (with_reducible show wpAny _ _ (PyProof.Rows.subscriptTail _ _ _ _) _ _ _)); dsimp only))) | (dsimp only; walk1 <;> (try ((fail_if_success (with_reducible show wpAny _ _ (PyProof.Rows.subscriptTail _ _ _ _) _ _ _)); dsimp only))) | (leave1; walk_say "STEP leave1"; try dsimp only))
  refine wpAny_mono (Q := EscJ g' L' news s (esc5 tx)) ?_ ?_ (fun _ _ e => e)
  · repeat' (first | (((fail_if_success (with_reducible show wpAny _ _ _ _ _ _)); first | (refine Mine.Hi.HidV.out (by with_reducible assumption) _ _ ?_) | (refine Mine.Hi.Hid.nxt (by with_reducible assumption) _ ?_) | (refine Mine.Hi.Hid.oth (by with_reducible assumption) _ _ (fun h => nomatch h) ?_)); (try dsimp only)) | (k_unfold; (try dsimp only)) | (k_end; wrow_close) | ((with_reducible show wpAny _ _ (PySem.evalPart _ _) _ _ _); walk1) | ((with_reducible show wpAny _ _ (PyProof.Rows.subscriptTail _ _ _ _) _ _ _); walk1) | (walk1 <;> (try ((fail_if_success (with_reducible show wpAny _ _ (PyProof.Rows.subscriptTail _ _ _ _) _ _ _)); dsimp only))) | (dsimp only; walk1 <;> (try ((fail_if_success (with_reducible show wpAny _ _ (PyProof.Rows.subscriptTail _ _ _ _) _ _ _)); dsimp only))) | (leave1; walk_say "STEP leave1"; try dsimp only) | fail "no step")
    all_goals first
      | k_data
      | (refine' escJ_no ?f ?n ?c ?z ?m
         (case c => assumption)
         (case f => k_asm)
         (case n => k_asm)
         (case z => (show _ + _ ≠ 0); omega)
         (case m => first | exact fr_lemA _ | exact fun _ => rfl))
      | (refine' escJ_yes ?f ?n ?c ?z ?m
         (case c => assumption)
         (case f => k_asm)
         (case n => k_asm)
         (case z => (show _ + _ ≠ 0); omega)
         (case m => first | exact fr_lemD _ _ | exact fr_lemC _ _))
      | skip
    done
  intro f2 s2 hHid
  refine Mine.Hi.hideG (fun G hG => ?_)
  obtain ⟨eH1, h2, tk2, t2, eH2, h02, F2, N2⟩ := hHid
  refine hG ?_
  clear hG
  subst eH1 eH2
  (try dsimp only)
  try k_fold
  clear h0
  have h0 := h02
  clear h02
  repeat' ((fail_if_success (with_reducible show wpAny _ _ (exec (Stmt.If _ _ _ _) _) _ _ _)); first | (((fail_if_success (with_reducible show wpAny _ _ _ _ _ _)); first | (refine Mine.Hi.HidV.out (by with_reducible assumption) _ _ ?_) | (refine Mine.Hi.Hid.nxt (by with_reducible assumption) _ ?_) | (refine Mine.Hi.Hid.oth (by with_reducible assumption) _ _ (fun h => nomatch h) ?_)); (try dsimp only)) | (k_unfold; (try dsimp only)) | (k_end; wrow_close) | ((with_reducible show wpAny _ _ (PySem.evalPart _ _) _ _ _); walk1) | ((with_reducible show wpAny _ _ (PyProof.Rows.subscriptTail _ _ _ _) _ _ _); walk1) | (walk1 <;> (try ((fail_if_success (with_reducible show wpAny _ _ (PyProof.Rows.subscriptTail _ _ _ _) _ _ _)); dsimp only))) | (dsimp only; walk1 <;> (try ((fail_if_success (with_reducible show wpAny _ _ (PyProof.Rows.subscriptTail _ _ _ _) _ _ _)); dsimp only))) | (leave1; walk_say "STEP leave1"; try dsimp only))
  refine wpAny_mono (Q := EscJ g' L' news s (esc6 tx)) ?_ ?_ (fun _ _ e => e)
  · repeat' (first | (((fail_if_success (with_reducible show wpAny _ _ _ _ _ _)); first | (refine Mine.Hi.HidV.out (by with_reducible assumption) _ _ ?_) | (refine Mine.Hi.Hid.nxt (by with_reducible assumption) _ ?_) | (refine Mine.Hi.Hid.oth (by with_reducible assumption) _ _ (fun h => nomatch h) ?_)); (try dsimp only)) | (k_unfold; (try dsimp only)) | (k_end; wrow_close) | ((with_reducible show wpAny _ _ (PySem.evalPart _ _) _ _ _); walk1) | ((with_reducible show wpAny _ _ (PyProof.Rows.subscriptTail _ _ _ _) _ _ _); walk1) | (walk1 <;> (try ((fail_if_success (with_reducible show wpAny _ _ (PyProof.Rows.subscriptTail _ _ _ _) _ _ _)); dsimp only))) | (dsimp only; walk1 <;> (try ((fail_if_success (with_reducible show wpAny _ _ (PyProof.Rows.subscriptTail _ _ _ _) _ _ _)); dsimp only))) | (leave1; walk_say "STEP leave1"; try dsimp only) | fail "no step")
    all_goals first
      | k_data
      | (refine' escJ_no ?f ?n ?c ?z ?m
         (case c => assumption)
         (case f => k_asm)
         (case n => k_asm)
         (case z => (show _ + _ ≠ 0); omega)
         (case m => first | exact fr_lemA _ | exact fun _ => rfl))
      | (refine' escJ_yes ?f ?n ?c ?z ?m
         (case c => assumption)
         (case f => k_asm)
         (case n => k_asm)
         (case z => (show _ + _ ≠ 0); omega)
         (case m => first | exact fr_lemD _ _ | exact fr_lemC _ _))
      | skip
    done
  intro f2 s2 hHid
  refine Mine.Hi.hideG (fun G hG => ?_)
  obtain ⟨eH1, h2, tk2, t2, eH2, h02, F2, N2⟩ := hHid
  refine hG ?_
  clear hG
  subst eH1 eH2
  (try dsimp only)
  try k_fold
  clear h0
  have h0 := h02
  clear h02
  repeat' ((fail_if_success (with_reducible show wpAny _ _ (exec (Stmt.If _ _ _ _) _) _ _ _)); first | (((fail_if_success (with_reducible show wpAny _ _ _ _ _ _)); first | (refine Mine.Hi.HidV.out (by with_reducible assumption) _ _ ?_) | (refine Mine.Hi.Hid.nxt (by with_reducible assumption) _ ?_) | (refine Mine.Hi.Hid.oth (by with_reducible assumption) _ _ (fun h => nomatch h) ?_)); (try dsimp only)) | (k_unfold; (try dsimp only)) | (k_end; wrow_close) | ((with_reducible show wpAny _ _ (PySem.evalPart _ _) _ _ _); walk1) | ((with_reducible show wpAny _ _ (PyProof.Rows.subscriptTail _ _ _ _) _ _ _); walk1) | (walk1 <;> (try ((fail_if_success (with_reducible show wpAny _ _ (PyProof.Rows.subscriptTail _ _ _ _) _ _ _)); dsimp only))) | (dsimp only; walk1 <;> (try ((fail_if_success (with_reducible show wpAny _ _ (PyProof.Rows.subscriptTail _ _ _ _) _ _ _)); dsimp only))) | (leave1; walk_say "STEP leave1"; try dsimp only))
  refine wpAny_mono (Q := EscJ g' L' news s (esc7 tx)) ?_ ?_ (fun _ _ e => e)
  · repeat' (first | (((fail_if_success (with_reducible show wpAny _ _ _ _ _ _)); first | (refine Mine.Hi.HidV.out (by with_reducible assumption) _ _ ?_) | (refine Mine.Hi.Hid.nxt (by with_reducible assumption) _ ?_) | (refine Mine.Hi.Hid.oth (by with_reducible assumption) _ _ (fun h => nomatch h) ?_)); (try dsimp only)) | (k_unfold; (try dsimp only)) | (k_end; wrow_close) | ((with_reducible show wpAny _ _ (PySem.evalPart _ _) _ _ _); walk1) | ((with_reducible show wpAny _ _ (PyProof.Rows.subscriptTail _ _ _ _) _ _ _); walk1) | (walk1 <;> (try ((fail_if_success (with_reducible show wpAny _ _ (PyProof.Rows.subscriptTail _ _ _ _) _ _ _)); dsimp only))) | (dsimp only; walk1 <;> (try ((fail_if_success (with_reducible show wpAny _ _ (PyProof.Rows.subscriptTail _ _ _ _) _ _ _)); dsimp only))) | (leave1; walk_say "STEP leave1"; try dsimp only) | fail "no step")
    all_goals first
      | k_data
      | (refine' escJ_no ?f ?n ?c ?z ?m
         (case c => assumption)
         (case f => k_asm)
         (case n => k_asm)
         (case z => (show _ + _ ≠ 0); omega)
         (case m => first | exact fr_lemA _ | exact fun _ => rfl))
      | (refine' escJ_yes ?f ?n ?c ?z ?m
         (case c => assumption)
         (case f => k_asm)
         (case n => k_asm)
         (case z => (show _ + _ ≠ 0); omega)
         (case m => first | exact fr_lemD _ _ | exact fr_lemC _ _))
      | skip
    done
  intro f2 s2 hHid
  refine Mine.Hi.hideG (fun G hG => ?_)
  obtain ⟨eH1, h2, tk2, t2, eH2, h02, F2, N2⟩ := hHid
  refine hG ?_
  clear hG
  subst eH1 eH2
  (try dsimp only)
  try k_fold
  clear h0
  have h0 := h02
  clear h02
  repeat' (first | (((fail_if_success (with_reducible show wpAny _ _ _ _ _ _)); first | (refine Mine.Hi.HidV.out (by with_reducible assumption) _ _ ?_) | (refine Mine.Hi.Hid.nxt (by with_reducible assumption) _ ?_) | (refine Mine.Hi.Hid.oth (by with_reducible assumption) _ _ (fun h => nomatch h) ?_)); (try dsimp only)) | (k_unfold; (try dsimp only)) | (k_end; wrow_close) | ((with_reducible show wpAny _ _ (PySem.evalPart _ _) _ _ _); walk1) | ((with_reducible show wpAny _ _ (PyProof.Rows.subscriptTail _ _ _ _) _ _ _); walk1) | (walk1 <;> (try ((fail_if_success (with_reducible show wpAny _ _ (PyProof.Rows.subscriptTail _ _ _ _) _ _ _)); dsimp only))) | (dsimp only; walk1 <;> (try ((fail_if_success (with_reducible show wpAny _ _ (PyProof.Rows.subscriptTail _ _ _ _) _ _ _)); dsimp only))) | (leave1; walk_say "STEP leave1"; try dsimp only) | fail "no step")
  all_goals first | exact hret _ _ _ (by k_asm) (by k_asm) | skip
end
end Mine.F3
end
section
local macro_rules | `(tactic| omega) => `(tactic| first | lia | omega (config := {}))
theorem Mine.Off.t3 : True := by
  w_top off
  first | (walk1; done) | trivial
section
open PySem PySem.W PyProof.Rows PySem.Calls PyProof.V PySem.Spec
namespace Mine.Ways0
/-- the peg of a disc -/
noncomputable def pegF (w t d : Int) : Int := (t.fdiv (2 ^ (w * d).toNat)).fmod (1 * 2 ^ w.toNat)
/-- the tower with that disc moved to the third peg -/
noncomputable def mvF (w t i d : Int) : Int := t + (3 - i - 2 * pegF w t d) * 2 ^ (w * d).toNat
noncomputable abbrev WSt := List Int × List (Int × Int)
noncomputable def putF (w t i d : Int) (st : WSt) : WSt :=
  if kdfHas st.2 (mvF w t i d) = true then st else (st.1 ++ [mvF w t i d], kdfPut st.2 (mvF w t i d) (kdfLook st.2 t 0 + 1))
noncomputable def wstep (w t : Int) (st : WSt) (i : Int) : WSt :=
  if pegF w t 0 ≠ i then putF w t i 0 st else if pegF w t 1 ≠ i then putF w t i 1 st else if pegF w t 2 ≠ i then putF w t i 2 st else if pegF w t 3 ≠ i then putF w t i 3 st else st
noncomputable def turnF (w t : Int) (st : WSt) : WSt := [0, 1, 2].foldl (wstep w t) st
noncomputable def stN (f w : Int) : Nat → WSt
  | 0 => ([f], [(f, 0)])
  | n + 1 => turnF w ((stN f w n).1.getD n 0) (stN f w n)

theorem stepI_at {w t i k : Int} {st : WSt} {n : Nat} (hk : k = 0 + (n : Int)) (hlt : n < (4 - 0 : Int).toNat) (hall : ∀ d : Int, 0 ≤ d → d < (n : Int) → pegF w t d = i) (hne : pegF w t k ≠ i) : wstep w t st i = putF w t i k st := by
  have h4 : n < 4 := hlt
  have hc : n = 0 ∨ n = 1 ∨ n = 2 ∨ n = 3 := by omega
  unfold wstep
  rcases hc with rfl | rfl | rfl | rfl
  · have : k = 0 := by omega
    subst this
    rw [if_pos hne]
  · have : k = 1 := by omega
    subst this
    rw [if_neg (by simpa using hall 0 (by omega) (by omega)), if_pos hne]
  · have : k = 2 := by omega
    subst this
    rw [if_neg (by simpa using hall 0 (by omega) (by omega)), if_neg (by simpa using hall 1 (by omega) (by omega)), if_pos hne]
  · have : k = 3 := by omega
    subst this
    rw [if_neg (by simpa using hall 0 (by omega) (by omega)), if_neg (by simpa using hall 1 (by omega) (by omega)), if_neg (by simpa using hall 2 (by omega) (by omega)), if_pos hne]
theorem stepI_off {w t i : Int} {st : WSt} (hall : ∀ d : Int, 0 ≤ d → d < (4 : Int) → pegF w t d = i) : wstep w t st i = st := by
  unfold wstep
  rw [if_neg (by simpa using hall 0 (by omega) (by omega)), if_neg (by simpa using hall 1 (by omega) (by omega)), if_neg (by simpa using hall 2 (by omega) (by omega)), if_neg (by simpa using hall 3 (by omega) (by omega))]

theorem put_keys {c : List (Int × Int)} {k v : Int} (h : kdfHas c k = false) : (kdfPut c k v).map (·.1) = c.map (·.1) ++ [k] := by
  unfold kdfPut
  unfold kdfHas at h
  rw [if_neg (by rw [h]; decide)]
  simp
theorem putF_keys {w t i d : Int} {st : WSt} (h : st.2.map (·.1) = st.1) : (putF w t i d st).2.map (·.1) = (putF w t i d st).1 := by
  unfold putF
  by_cases q : kdfHas st.2 (mvF w t i d) = true
  · rw [if_pos q]; exact h
  · rw [if_neg q]
    show (kdfPut st.2 _ _).map (·.1) = st.1 ++ [_]
    rw [put_keys (by simpa using q), h]
theorem stepI_keys {w t i : Int} {st : WSt} (h : st.2.map (·.1) = st.1) : (wstep w t st i).2.map (·.1) = (wstep w t st i).1 := by
  unfold wstep
  repeat' split
  all_goals first | exact putF_keys h | exact h
theorem fold_keys {w t : Int} : ∀ (l : List Int) {st : WSt}, st.2.map (·.1) = st.1 → (l.foldl (wstep w t) st).2.map (·.1) = (l.foldl (wstep w t) st).1
  | [], _, h => h
  | _ :: l, _, h => fold_keys l (stepI_keys h)
theorem stN_keys (f w : Int) : ∀ n, (stN f w n).2.map (·.1) = (stN f w n).1
  | 0 => rfl
  | n + 1 => fold_keys [0, 1, 2] (stN_keys f w n)
theorem putF_len {w t i d : Int} {st : WSt} : (putF w t i d st).1.length ≤ st.1.length + 1 := by
  unfold putF
  split <;> simp
theorem stepI_len {w t i : Int} {st : WSt} : (wstep w t st i).1.length ≤ st.1.length + 1 := by
  unfold wstep
  repeat' split
  all_goals first | exact putF_len | omega
theorem fold_len {w t : Int} : ∀ (l : List Int) {st : WSt}, (l.foldl (wstep w t) st).1.length ≤ st.1.length + l.length
  | [], _ => by simp
  | x :: l, st => by
    have h1 := fold_len l (w := w) (t := t) (st := wstep w t st x)
    have h2 := stepI_len (w := w) (t := t) (st := st) (i := x)
    simp only [List.foldl_cons, List.length_cons]
    omega
theorem has_of_keys {c : List (Int × Int)} {k : Int} (h : k ∈ c.map (·.1)) : kdfHas c k = true := by
  unfold kdfHas
  rw [List.any_eq_true]
  obtain ⟨p, hp, rfl⟩ := List.mem_map.mp h
  exact ⟨p, hp, by simp⟩
theorem putF_has {w t i d k : Int} {st : WSt} (h : kdfHas st.2 k = true) : kdfHas (putF w t i d st).2 k = true := by
  unfold putF
  split
  · exact h
  · show kdfHas (kdfPut _ _ _) k = true
    rw [kdyHas_put, h, Bool.or_true]
theorem stepI_has {w t i k : Int} {st : WSt} (h : kdfHas st.2 k = true) : kdfHas (wstep w t st i).2 k = true := by
  unfold wstep
  repeat' split
  all_goals first | exact putF_has h | exact h
theorem fold_has {w t k : Int} : ∀ (l : List Int) {st : WSt}, kdfHas st.2 k = true → kdfHas (l.foldl (wstep w t) st).2 k = true
  | [], _, h => h
  | _ :: l, _, h => fold_has l (stepI_has h)
theorem getD_mem {l : List Int} {n : Nat} (h : n < l.length) : l.getD n 0 ∈ l := by
  rw [List.getD_eq_getElem?_getD, List.getElem?_eq_getElem h]
  exact List.getElem_mem h
theorem stN_has {f w : Int} {n i : Nat} (h : i < (stN f w n).1.length) : kdfHas (stN f w n).2 ((stN f w n).1.getD i 0) = true :=
  has_of_keys (by rw [stN_keys]; exact getD_mem h)
theorem peg_bnd {w x : Int} (h1 : 2 ≤ w) (h2 : w ≤ 5) : 0 ≤ x.fmod (1 * 2 ^ w.toNat) ∧ x.fmod (1 * 2 ^ w.toNat) < 32 := by
  have hp : (0 : Int) < 1 * 2 ^ w.toNat := by
    rw [Int.one_mul]; exact Int.pow_pos (by decide)
  have hle : (1 * 2 ^ w.toNat : Int) ≤ 32 := by
    have : w = 2 ∨ w = 3 ∨ w = 4 ∨ w = 5 := by omega
    rcases this with rfl | rfl | rfl | rfl <;> decide
  exact ⟨Int.fmod_nonneg_of_pos _ hp, Int.lt_of_lt_of_le (Int.fmod_lt_of_pos _ hp) hle⟩
theorem abs_small {w x i : Int} (h1 : 2 ≤ w) (h2 : w ≤ 5) (h3 : 0 ≤ i) (h4 : i ≤ 3) : (3 - i - 2 * x.fmod (1 * 2 ^ w.toNat)).natAbs < 2 ^ 64 := by
  have := peg_bnd (x := x) h1 h2
  omega
theorem sh_bnd {w k : Int} (h1 : 2 ≤ w) (h2 : w ≤ 5) (h3 : 0 ≤ k) (h4 : k ≤ 3) : 0 ≤ w * k ∧ w * k ≤ 1000000 := by
  have : w = 2 ∨ w = 3 ∨ w = 4 ∨ w = 5 := by omega
  rcases this with rfl | rfl | rfl | rfl <;> omega
end Mine.Ways0
end
theorem Mine.Off.t4 : True := by
  w_top off
  first | (walk1; done) | trivial
section
open PySem PySem.W PyProof.Rows



namespace Mine.F1
section
variable {w : World} {p : Program} {loose : List Str} {mean : ExcName → Option Value} {mg mb : Str → Option Value}
  {dp un : Nat} {gd : Option (List Code)} {cn : Str} {cs : Scope} {a : Addr} {ccd : Value} {cl : List (Str × Addr)} {outer : List Env} {A₀ : Around} {base h₀ : Heap} {L : Addr} {m : Str → Option Value} {news : List (Addr × Obj)} {s : Shared}
    {Q E : Value → Shared → Prop}

section
open PySem.Flt PySem.Calls
variable {prog : Program} {w : World} {A : Around} {E : Value → Shared → Prop} {s : Shared} {Q : Value → Shared → Prop} {h₀ : Heap} {L : Addr} {m : Str → Option Value} {news : List (Addr × Obj)}
noncomputable abbrev ltF (x y : UInt64) : Bool := Float64.cmp x y == some .lt
noncomputable abbrev mxF (x y : UInt64) : UInt64 := if ltF x y = true then y else x
noncomputable abbrev mnF (x y : UInt64) : UInt64 := if ltF y x = true then y else x
theorem max_three_ff {x y z : UInt64} {t u v : Tok} (hh : A.handled = none) (F : Fr h₀ L s.heap m) (N : News h₀ L s.heap news)
    (h : ∀ h' tk v, Fr h₀ L h' m → News h₀ L h' news → Q (.float (mxF (mxF x y) z) v) { s with heap := h', toks := tk }) :
    wpAny (model prog w) A (call (.builtin "max") [.float x t, .float y u, .float z v]) Q E s := by
  have hT : (s.heap.push { cls := .type "tuple", data := .seq #[.float x t, .float y u, .float z v] }).IsTuple s.heap.objs.size #[.float x t, .float y u, .float z v] := ⟨_, Heap.get?_push_size _ rfl, rfl, 0, rfl⟩
  refine call_max_three (wpAny_pyIter_tuple hT ?_)
  have hsz : (s.heap.push { cls := .type "tuple", data := .seq #[.float x t, .float y u, .float z v] }).objs.size = s.heap.objs.size + 1 := Heap.size_push ..
  refine ⟨_, [_, s.heap.objs.size], [_], _, _, _, _, rfl, Walks.tuple (A := A.in1) hh _ s.heap.objs.size (by rw [hsz]; exact Nat.ne_of_lt (Nat.lt_succ_self _)) #[.float x t, .float y u, .float z v],
    ⟨⟨_, Heap.get?_push_size _ rfl, rfl, rfl⟩, hT.push _⟩, fun c hc => ?_, by simp, cmpOf_gt #[.float x t, .float y u, .float z v] (by simp [NumV.float]), fun r h' tk hP hk => ?_⟩
  · show c < ((s.heap.push _).push _).objs.size
    rw [Heap.size_push, hsz]
    rcases List.mem_cons.mp hc with rfl | hc
    · rw [hsz]; exact Nat.lt_succ_self _
    · rcases List.mem_cons.mp hc with rfl | hc
      · exact Nat.lt_succ_of_lt (Nat.lt_succ_self _)
      · cases hc
  · have hold : ∀ c o, s.heap.get? c = some o → h'.get? c = some o := fun c o e => by
      refine hk c o (fun hm => ?_) (Heap.get?_push_of_some _ (Heap.get?_push_of_some _ e))
      rcases List.mem_cons.mp hm with e1 | hm
      · have := Heap.lt_size e; rw [e1, hsz] at this; exact Nat.lt_irrefl _ (Nat.lt_of_succ_lt this)
      · cases hm
    have hv : ∃ q, r = .float (mxF (mxF x y) z) q := by
      unfold mxF ltF
      have a1 : ltV (.float x t) (.float y u) = (Float64.cmp x y == some .lt) := rfl
      have a2 : ltV (.float x t) (.float z v) = (Float64.cmp x z == some .lt) := rfl
      have a3 : ltV (.float y u) (.float z v) = (Float64.cmp y z == some .lt) := rfl
      cases h1 : (Float64.cmp x y == some .lt) <;> cases h2 : (Float64.cmp x z == some .lt) <;> cases h3 : (Float64.cmp y z == some .lt) <;> simp [argBest, a1, a2, a3, h1, h2, h3] at hP ⊢ <;> subst hP <;> exact ⟨_, rfl⟩
    obtain ⟨q, rfl⟩ := hv
    exact h h' tk q (F.grownK hold) (N.grown hold)
theorem min_three_ff {x y z : UInt64} {t u v : Tok} (hh : A.handled = none) (F : Fr h₀ L s.heap m) (N : News h₀ L s.heap news)
    (h : ∀ h' tk v, Fr h₀ L h' m → News h₀ L h' news → Q (.float (mnF (mnF x y) z) v) { s with heap := h', toks := tk }) :
    wpAny (model prog w) A (call (.builtin "min") [.float x t, .float y u, .float z v]) Q E s := by
  have hT : (s.heap.push { cls := .type "tuple", data := .seq #[.float x t, .float y u, .float z v] }).IsTuple s.heap.objs.size #[.float x t, .float y u, .float z v] := ⟨_, Heap.get?_push_size _ rfl, rfl, 0, rfl⟩
  refine call_min_three (wpAny_pyIter_tuple hT ?_)
  have hsz : (s.heap.push { cls := .type "tuple", data := .seq #[.float x t, .float y u, .float z v] }).objs.size = s.heap.objs.size + 1 := Heap.size_push ..
  refine ⟨_, [_, s.heap.objs.size], [_], _, _, _, _, rfl, Walks.tuple (A := A.in1) hh _ s.heap.objs.size (by rw [hsz]; exact Nat.ne_of_lt (Nat.lt_succ_self _)) #[.float x t, .float y u, .float z v],
    ⟨⟨_, Heap.get?_push_size _ rfl, rfl, rfl⟩, hT.push _⟩, fun c hc => ?_, by simp, cmpOf_lt #[.float x t, .float y u, .float z v] (by simp [NumV.float]), fun r h' tk hP hk => ?_⟩
  · show c < ((s.heap.push _).push _).objs.size
    rw [Heap.size_push, hsz]
    rcases List.mem_cons.mp hc with rfl | hc
    · rw [hsz]; exact Nat.lt_succ_self _
    · rcases List.mem_cons.mp hc with rfl | hc
      · exact Nat.lt_succ_of_lt (Nat.lt_succ_self _)
      · cases hc
  · have hold : ∀ c o, s.heap.get? c = some o → h'.get? c = some o := fun c o e => by
      refine hk c o (fun hm => ?_) (Heap.get?_push_of_some _ (Heap.get?_push_of_some _ e))
      rcases List.mem_cons.mp hm with e1 | hm
      · have := Heap.lt_size e; rw [e1, hsz] at this; exact Nat.lt_irrefl _ (Nat.lt_of_succ_lt this)
      · cases hm
    have hv : ∃ q, r = .float (mnF (mnF x y) z) q := by
      unfold mnF ltF
      have a1 : ltV (.float y u) (.float x t) = (Float64.cmp y x == some .lt) := rfl
      have a2 : ltV (.float z v) (.float x t) = (Float64.cmp z x == some .lt) := rfl
      have a3 : ltV (.float z v) (.float y u) = (Float64.cmp z y == some .lt) := rfl
      cases h1 : (Float64.cmp y x == some .lt) <;> cases h2 : (Float64.cmp z x == some .lt) <;> cases h3 : (Float64.cmp z y == some .lt) <;> simp [argBest, a1, a2, a3, h1, h2, h3] at hP ⊢ <;> subst hP <;> exact ⟨_, rfl⟩
    obtain ⟨q, rfl⟩ := hv
    exact h h' tk q (F.grownK hold) (N.grown hold)
end
noncomputable def rgbG (M m r g b : UInt64) : UInt64 × UInt64 × UInt64 :=
  if (Float64.cmp m M == some .eq) = true then (0, Float64.div (Float64.add M m) 4611686018427387904, 0) else
  ((Float64.divmod (Float64.div
      (if (Float64.cmp r M == some .eq) = true then Float64.sub (Float64.div (Float64.sub M b) (Float64.sub M m)) (Float64.div (Float64.sub M g) (Float64.sub M m))
       else if (Float64.cmp g M == some .eq) = true then Float64.sub (Float64.add 4611686018427387904 (Float64.div (Float64.sub M r) (Float64.sub M m))) (Float64.div (Float64.sub M b) (Float64.sub M m))
       else Float64.sub (Float64.add 4616189618054758400 (Float64.div (Float64.sub M g) (Float64.sub M m))) (Float64.div (Float64.sub M r) (Float64.sub M m))) 4618441417868443648) 4607182418800017408).snd,
   Float64.div (Float64.add M m) 4611686018427387904,
   if (Float64.cmp (Float64.div (Float64.add M m) 4611686018427387904) 4602678819172646912 == some .lt || Float64.cmp (Float64.div (Float64.add M m) 4611686018427387904) 4602678819172646912 == some .eq) = true
   then Float64.div (Float64.sub M m) (Float64.add M m) else Float64.div (Float64.sub M m) (Float64.sub (Float64.sub 4611686018427387904 M) m))
noncomputable def rgbOk (M m : UInt64) : Prop := (Float64.cmp m M == some .eq) = true ∨ (Float64.isZero (Float64.sub M m) = false ∧ Float64.isZero (Float64.add M m) = false ∧ Float64.isZero (Float64.sub (Float64.sub 4611686018427387904 M) m) = false)
theorem ok1 {M m : UInt64} (k : rgbOk M m) (h : (Float64.cmp m M == some .eq) = false) (h2 : Float64.isZero (Float64.sub M m) = true) : False := by
  rcases k with k | ⟨k1, k2, k3⟩
  · rw [h] at k; cases k
  · rw [h2] at k1; cases k1
theorem ok2 {M m : UInt64} (k : rgbOk M m) (h : (Float64.cmp m M == some .eq) = false) (h2 : Float64.isZero (Float64.add M m) = true) : False := by
  rcases k with k | ⟨k1, k2, k3⟩
  · rw [h] at k; cases k
  · rw [h2] at k2; cases k2
theorem ok3 {M m : UInt64} (k : rgbOk M m) (h : (Float64.cmp m M == some .eq) = false) (h2 : Float64.isZero (Float64.sub (Float64.sub 4611686018427387904 M) m) = true) : False := by
  rcases k with k | ⟨k1, k2, k3⟩
  · rw [h] at k; cases k
  · rw [h2] at k3; cases k3
theorem rgb_call {r g b : UInt64} {t1 t2 t3 : Tok}
    (B : Below A₀ base outer h₀) (F : Fr h₀ L s.heap m) (X : (hd.heap_39 w.params).In h₀) (N : News h₀ L s.heap news) (T : Top p loose mean mg mb h₀) (hk : cs.kind = .function)
    (hd : dp + 1 < recursionLimit) (hu : un + 8 < cLine) (hok : rgbOk (mxF (mxF r g) b) (mnF (mnF r g) b))
    (hret : ∀ D x y z t t' t'' h' tk', rgbG (mxF (mxF r g) b) (mnF (mnF r g) b) r g b = (x, y, z) → Fr h₀ L h' m → News h₀ L h' ((D, { cls := .type "tuple", data := .seq #[.float x t, .float y t', .float z t''] }) :: news) → (∀ p ∈ news, p.1 < D) → Q (.ref D) { s with heap := h', toks := tk' }) :
    wpAny (model PySem.Challenge.rw_rw0037_01.row.prog w) (ktrTop dp un gd cn cs L a ccd cl outer) (call (.ref 21) [.float r t1, .float g t2, .float b t3]) Q E s := by
  k_with_none
  k_with "execs cons" => (first | (k_here; k_gentoks) | (k_here; k_made) | ((with_reducible refine Mine.Hi.ex_hid ?_); intro qH'Q hH'Q; (try dsimp only)))
  k_with "call builtin:max" => (((with_reducible show wpAny _ _ (call _ [Value.float _ _, Value.float _ _, Value.float _ _]) _ _ _); (rename News _ _ _ _ => N'); (rename Fr _ _ _ _ => F'); refine max_three_ff rfl F' N' ?_; clear N'; intro _ _ _ _ _))
  k_with "call builtin:min" => (((with_reducible show wpAny _ _ (call _ [Value.float _ _, Value.float _ _, Value.float _ _]) _ _ _); (rename News _ _ _ _ => N'); (rename Fr _ _ _ _ => F'); refine min_three_ff rfl F' N' ?_; clear N'; intro _ _ _ _ _))
  revert X
  have hx : PySem.Challenge.rw_rw0037_01 = PySem.Challenge.rw_rw0037_01 := rfl
  revert hx
  k_fill
  intro hx X
  refine wpAny_call ?_
  k_dflt ktr_enter
  have hlow : True := trivial
  repeat' (first | (((fail_if_success (with_reducible show wpAny _ _ _ _ _ _)); first | (refine Mine.Hi.HidV.out (by with_reducible assumption) _ _ ?_) | (refine Mine.Hi.Hid.nxt (by with_reducible assumption) _ ?_) | (refine Mine.Hi.Hid.oth (by with_reducible assumption) _ _ (fun h => nomatch h) ?_)); (try dsimp only)) | (k_unfold; (try dsimp only)) | (k_end; wrow_close) | ((with_reducible show wpAny _ _ (PySem.evalPart _ _) _ _ _); walk1) | ((with_reducible show wpAny _ _ (PyProof.Rows.subscriptTail _ _ _ _) _ _ _); walk1) | (walk1 <;> (try ((fail_if_success (with_reducible show wpAny _ _ (PyProof.Rows.subscriptTail _ _ _ _) _ _ _)); dsimp only))) | (dsimp only; walk1 <;> (try ((fail_if_success (with_reducible show wpAny _ _ (PyProof.Rows.subscriptTail _ _ _ _) _ _ _)); dsimp only))) | (leave1; walk_say "STEP leave1"; try dsimp only) | fail "no step")
  all_goals first
    | exact (ok1 hok (by assumption) (by assumption)).elim
    | exact (ok2 hok (by assumption) (by assumption)).elim
    | exact (ok3 hok (by assumption) (by assumption)).elim
    | (refine' hret _ _ _ _ _ _ _ _ _ ?e ?F ?N ?l
       (case F => k_asm)
       (case N => k_asm)
       (case l => assumption)
       (case e => simp only [rgbG, *, if_true, if_false, Bool.false_eq_true]))
end
end Mine.F1
end
theorem Mine.Off.t5 : True := by
  w_top off
  first | (walk1; done) | trivial
section
open PySem PySem.W PyProof.Rows



namespace Mine.F2
section
variable {w : World} {p : Program} {loose : List Str} {mean : ExcName → Option Value} {mg mb : Str → Option Value}
  {dp un : Nat} {gd : Option (List Code)} {cn : Str} {cs : Scope} {a : Addr} {ccd : Value} {cl : List (Str × Addr)} {outer : List Env} {A₀ : Around} {base h₀ : Heap} {L : Addr} {m : Str → Option Value} {news : List (Addr × Obj)} {s : Shared}
    {Q E : Value → Shared → Prop}

noncomputable def vF (m1 m2 hue : UInt64) : UInt64 :=
  let u := (Float64.divmod hue 4607182418800017408).snd
  if (Float64.cmp u 4595172819793696085 == some .lt) = true then Float64.add m1 (Float64.mul (Float64.mul (Float64.sub m2 m1) u) 4618441417868443648)
  else if (Float64.cmp u 4602678819172646912 == some .lt) = true then m2
  else if (Float64.cmp u 4604180019048437077 == some .lt) = true then Float64.add m1 (Float64.mul (Float64.mul (Float64.sub m2 m1) (Float64.sub 4604180019048437077 u)) 4618441417868443648)
  else m1
theorem v_call {m1 m2 hue : UInt64} {t1 t2 t3 : Tok}
    (B : Below A₀ base outer h₀) (F : Fr h₀ L s.heap m) (X : (hd.heap_39 w.params).In h₀) (N : News h₀ L s.heap news) (T : Top p loose mean mg mb h₀) (hk : cs.kind = .function)
    (hd : dp + 1 < recursionLimit) (hu : un + 8 < cLine)
    (hret : ∀ t h' tk', Fr h₀ L h' m → News h₀ L h' news →  Q (.float (vF m1 m2 hue) t) { s with heap := h', toks := tk' }) :
    wpAny (model PySem.Challenge.rw_rw0037_01.row.prog w) (ktrTop dp un gd cn cs L a ccd cl outer) (call (.ref 35) [.float m1 t1, .float m2 t2, .float hue t3]) Q E s := by
  k_with_none
  k_with "execs cons" => (first | (k_here; k_gentoks) | (k_here; k_made) | ((with_reducible refine Mine.Hi.ex_hid ?_); intro qH'Q hH'Q; (try dsimp only)))
  have hret2 : ∀ r t h' tk', vF m1 m2 hue = r → Fr h₀ L h' m → News h₀ L h' news →  Q (.float r t) { s with heap := h', toks := tk' } := fun r t h' tk' e => e ▸ hret t h' tk'
  clear hret
  revert X
  have hx : PySem.Challenge.rw_rw0037_01 = PySem.Challenge.rw_rw0037_01 := rfl
  revert hx
  k_fill
  intro hx X
  refine wpAny_call ?_
  k_dflt ktr_enter
  repeat' (first | (((fail_if_success (with_reducible show wpAny _ _ _ _ _ _)); first | (refine Mine.Hi.HidV.out (by with_reducible assumption) _ _ ?_) | (refine Mine.Hi.Hid.nxt (by with_reducible assumption) _ ?_) | (refine Mine.Hi.Hid.oth (by with_reducible assumption) _ _ (fun h => nomatch h) ?_)); (try dsimp only)) | (k_unfold; (try dsimp only)) | (k_end; wrow_close) | ((with_reducible show wpAny _ _ (PySem.evalPart _ _) _ _ _); walk1) | ((with_reducible show wpAny _ _ (PyProof.Rows.subscriptTail _ _ _ _) _ _ _); walk1) | (walk1 <;> (try ((fail_if_success (with_reducible show wpAny _ _ (PyProof.Rows.subscriptTail _ _ _ _) _ _ _)); dsimp only))) | (dsimp only; walk1 <;> (try ((fail_if_success (with_reducible show wpAny _ _ (PyProof.Rows.subscriptTail _ _ _ _) _ _ _)); dsimp only))) | (leave1; walk_say "STEP leave1"; try dsimp only) | fail "no step")
  all_goals first
    | (refine' hret2 _ _ _ _ ?e ?F ?N
       (case F => k_asm)
       (case N => k_asm)
       (case e => simp only [vF, *, if_true, if_false, Bool.false_eq_true]))
noncomputable def hlsF (h l s : UInt64) : UInt64 × UInt64 × UInt64 :=
  if (Float64.cmp s 0 == some .eq) = true then (l, l, l) else
  let m2 := if (Float64.cmp l 4602678819172646912 == some .lt || Float64.cmp l 4602678819172646912 == some .eq) = true then Float64.mul l (Float64.add 4607182418800017408 s) else Float64.sub (Float64.add l s) (Float64.mul l s)
  let m1 := Float64.sub (Float64.mul 4611686018427387904 l) m2
  (vF m1 m2 (Float64.add h 4599676419421066581), vF m1 m2 h, vF m1 m2 (Float64.sub h 4599676419421066581))
theorem hls_call {h l sh : UInt64} {t1 t2 t3 : Tok}
    (B : Below A₀ base outer h₀) (F : Fr h₀ L s.heap m) (X : (hd.heap_39 w.params).In h₀) (N : News h₀ L s.heap news) (T : Top p loose mean mg mb h₀) (hk : cs.kind = .function)
    (hd : dp + 3 < recursionLimit) (hu : un + 24 < cLine)
    (hret : ∀ D x y z t t' t'' h' tk', hlsF h l sh = (x, y, z) → Fr h₀ L h' m → News h₀ L h' ((D, { cls := .type "tuple", data := .seq #[.float x t, .float y t', .float z t''] }) :: news) → (∀ p ∈ news, p.1 < D) → Q (.ref D) { s with heap := h', toks := tk' }) :
    wpAny (model PySem.Challenge.rw_rw0037_01.row.prog w) (ktrTop dp un gd cn cs L a ccd cl outer) (call (.ref 28) [.float h t1, .float l t2, .float sh t3]) Q E s := by
  k_with_none
  k_with "execs cons" => (first | (k_here; k_gentoks) | (k_here; k_made) | ((with_reducible refine Mine.Hi.ex_hid ?_); intro qH'Q hH'Q; (try dsimp only)))
  k_with "call ref" => (((with_reducible show wpAny _ _ (call (Value.ref 35) _) _ _ _); k_dflt (refine' v_call ?FK ?BK ?XK ?NK ?TK ?kK ?dK ?uK ?_; (case FK => k_asm); (case BK => k_asm); (case XK => k_asm); (case NK => k_asm); (case TK => k_asm); (case kK => first | exact rfl | assumption); (case dK => ktr_room); (case uK => ktr_units); k_whole); intro t'Q h'Q tk'Q F'Q N'Q; (try dsimp only); (try k_fold)))
  revert X
  have hx : PySem.Challenge.rw_rw0037_01 = PySem.Challenge.rw_rw0037_01 := rfl
  revert hx
  k_fill
  intro hx X
  refine wpAny_call ?_
  k_dflt ktr_enter
  repeat' (first | (((fail_if_success (with_reducible show wpAny _ _ _ _ _ _)); first | (refine Mine.Hi.HidV.out (by with_reducible assumption) _ _ ?_) | (refine Mine.Hi.Hid.nxt (by with_reducible assumption) _ ?_) | (refine Mine.Hi.Hid.oth (by with_reducible assumption) _ _ (fun h => nomatch h) ?_)); (try dsimp only)) | (k_unfold; (try dsimp only)) | (k_end; wrow_close) | ((with_reducible show wpAny _ _ (PySem.evalPart _ _) _ _ _); walk1) | ((with_reducible show wpAny _ _ (PyProof.Rows.subscriptTail _ _ _ _) _ _ _); walk1) | (walk1 <;> (try ((fail_if_success (with_reducible show wpAny _ _ (PyProof.Rows.subscriptTail _ _ _ _) _ _ _)); dsimp only))) | (dsimp only; walk1 <;> (try ((fail_if_success (with_reducible show wpAny _ _ (PyProof.Rows.subscriptTail _ _ _ _) _ _ _)); dsimp only))) | (leave1; walk_say "STEP leave1"; try dsimp only) | fail "no step")
  all_goals first
    | (refine' hret _ _ _ _ _ _ _ _ _ ?e ?F ?N ?l
       (case F => k_asm)
       (case N => k_asm)
       (case l => assumption)
       (case e => simp only [hlsF, *, if_true, if_false, Bool.false_eq_true]))
    | skip
end
end Mine.F2
end
theorem Mine.Off.t6 : True := by
  w_top off
  first | (walk1; done) | trivial
section
open PySem PySem.W PyProof.Rows



namespace Mine.F4
section
variable {w : World} {p : Program} {loose : List Str} {mean : ExcName → Option Value} {mg mb : Str → Option Value}
  {dp un : Nat} {gd : Option (List Code)} {cn : Str} {cs : Scope} {a : Addr} {ccd : Value} {cl : List (Str × Addr)} {outer : List Env} {A₀ : Around} {base h₀ : Heap} {L : Addr} {m : Str → Option Value} {news : List (Addr × Obj)} {s : Shared}
    {Q E : Value → Shared → Prop}

theorem news_tup {h₀ h : Heap} {L a : Addr} {items : Array Value} {n : Nat} {news : List (Addr × Obj)} (N : News h₀ L h news) (hm : (a, ({ cls := .type "tuple", data := .seq items n } : Obj)) ∈ news) : IsTup h a items := ⟨_, (N _ hm).1, rfl, _, rfl⟩
noncomputable abbrev nameL : List Str := [Str.ofString "amp;", Str.ofString "lt;", Str.ofString "gt;", Str.ofString "quot;", Str.ofString "#13;", Str.ofString "#10;", Str.ofString "#09;"]
noncomputable def spF (mk : Str) (dep : Int) : Str := if dep = 0 then mk else (Str.ofString "&" ++ Txt.mul (Str.ofString "amp;") (dep - 1)) ++ nameL.getD (Txt.find (Str.ofString "&<>\"\r\n\t") mk).toNat Str.empty
theorem le1000 {n : Nat} (h : n ≤ 1000) : n ≤ sizeLine := by rw [sizeLine_eq]; omega
theorem hlt7 {i : Int} (h : i < 7) : i < ((nameL.length : Nat) : Int) := h
theorem hlt63 {i : Int} (h : i < 7) : i < 2 ^ 63 := by omega
theorem spelled_call {mk : Str} {dep : Int} {t1 t2 : Tok}
    (B : Below A₀ base outer h₀) (F : Fr h₀ L s.heap m) (X : (hd.heap_39 w.params).In h₀) (N : News h₀ L s.heap news) (T : Top p loose mean mg mb h₀) (hk : cs.kind = .function)
    (hd : dp + 1 < recursionLimit) (hu : un + 8 < cLine) (h1 : mk.length = 1) (h2 : 0 ≤ dep) (h3 : dep ≤ 3) (hj0 : 0 ≤ Txt.find (Str.ofString "&<>\"\r\n\t") mk) (hj1 : Txt.find (Str.ofString "&<>\"\r\n\t") mk < 7)
    (hsz : Str.length (Str.ofString "&" ++ Txt.mul (Str.ofString "amp;") (dep - 1)) + Str.length (nameL.getD (Txt.find (Str.ofString "&<>\"\r\n\t") mk).toNat Str.empty) ≤ 1000)
    (hret : ∀ t h' tk', Fr h₀ L h' m → News h₀ L h' news →  Q (.str (spF mk dep) t) { s with heap := h', toks := tk' }) :
    wpAny (model PySem.Challenge.rw_rw0037_01.row.prog w) (ktrTop dp un gd cn cs L a ccd cl outer) (call (.ref 77) [.str mk t1, .int dep t2]) Q E s := by
  k_with_none
  k_with "execs cons" => (first | (k_here; k_gentoks) | (k_here; k_made) | ((with_reducible refine Mine.Hi.ex_hid ?_); intro qH'Q hH'Q; (try dsimp only)))
  k_with "binaryOp Add str str" => ((refine PyProof.Rows.add_str ?_ (le1000 (by assumption)); intro _ _))
  k_with "subscriptTail" => ((k_here; (with_reducible show wpAny _ _ (subscriptTail _ _ (Value.ref _) (Value.int _ _)) _ _ _); k_dflt (refine' KTb.item_tup (ws := nameL) ?aK ?bK ?cK ?dK ?eK ?_; (case aK => exact news_tup (by k_asm) (by k_mem)); (case bK => repeat constructor); (case cK => assumption); (case dK => exact hlt7 (by assumption)); (case eK => exact hlt63 (by assumption))); intro _ _))
  have hret2 : ∀ r t h' tk', spF mk dep = r → Fr h₀ L h' m → News h₀ L h' news →  Q (.str r t) { s with heap := h', toks := tk' } := fun r t h' tk' e => e ▸ hret t h' tk'
  clear hret
  revert X
  have hx : PySem.Challenge.rw_rw0037_01 = PySem.Challenge.rw_rw0037_01 := rfl
  revert hx
  k_fill
  intro hx X
  refine wpAny_call ?_
  k_dflt ktr_enter
  repeat' (first | (((fail_if_success (with_reducible show wpAny _ _ _ _ _ _)); first | (refine Mine.Hi.HidV.out (by with_reducible assumption) _ _ ?_) | (refine Mine.Hi.Hid.nxt (by with_reducible assumption) _ ?_) | (refine Mine.Hi.Hid.oth (by with_reducible assumption) _ _ (fun h => nomatch h) ?_)); (try dsimp only)) | (k_unfold; (try dsimp only)) | (k_end; wrow_close) | ((with_reducible show wpAny _ _ (PySem.evalPart _ _) _ _ _); walk1) | ((with_reducible show wpAny _ _ (PyProof.Rows.subscriptTail _ _ _ _) _ _ _); walk1) | (walk1 <;> (try ((fail_if_success (with_reducible show wpAny _ _ (PyProof.Rows.subscriptTail _ _ _ _) _ _ _)); dsimp only))) | (dsimp only; walk1 <;> (try ((fail_if_success (with_reducible show wpAny _ _ (PyProof.Rows.subscriptTail _ _ _ _) _ _ _)); dsimp only))) | (leave1; walk_say "STEP leave1"; try dsimp only) | fail "no step")
  all_goals first
    | k_data
    | (exfalso; omega)
    | (refine' hret2 _ _ _ _ ?e ?F ?N
       (case F => k_asm)
       (case N => first | k_asm | exact fun p hp => (by assumption : News _ _ _ (_ :: news)) p (.tail _ hp))
       (case e => first | exact if_pos (by assumption) | exact if_neg (by assumption)))
    | skip
end
end Mine.F4
end
theorem Mine.Off.t7 : True := by
  w_top off
  first | (walk1; done) | trivial
section
open PySem PySem.W PyProof.Rows PySem.Calls PySem.Spec



namespace Mine.Fc
section
variable {w : World} {p : Program} {loose : List Str} {mean : ExcName → Option Value} {mg mb : Str → Option Value}
  {dp un : Nat} {gd : Option (List Code)} {cn : Str} {cs : Scope} {a : Addr} {ccd : Value} {cl : List (Str × Addr)} {outer : List Env} {A₀ : Around} {base h₀ : Heap} {L : Addr} {m : Str → Option Value} {news : List (Addr × Obj)} {s : Shared}
    {Q E : Value → Shared → Prop}

section
variable {prog : Program} {A : Around} {env : Env} {y : Str} {px pos : Pos} {iter : PySem.Expr} {body : List Stmt} {Q : Flow → Shared → Prop} {E : Value → Shared → Prop} {it : Value} {s : Shared} {h₀ : Heap} {L I : Addr} {m : Str → Option Value} {rest : List (Addr × Obj)} {x x2 c left : Int} {k : Nat}
noncomputable def ForRest (prog : Program) (w : World) (A : Around) (E : Value → Shared → Prop) (env : Env) (y : Str) (px : Pos) (body : List Stmt) (Q : Flow → Shared → Prop) (it : Value) (s : Shared) : Prop :=
  codeAny (model prog w) A (.forLoop (.Name y px) it body [] env) (fun r s' => match r with | .ok f => Q f s' | .error e => cameBackBy (model prog w) A env E e s') s
noncomputable def ForPost (prog : Program) (w : World) (A : Around) (E : Value → Shared → Prop) (env : Env) (y : Str) (px : Pos) (body : List Stmt) (Q : Flow → Shared → Prop) (it : Value) (f : Flow) (s : Shared) : Prop :=
  match f with
  | .next => ForRest prog w A E env y px body Q it s
  | .cont => ForRest prog w A E env y px body Q it s
  | .brk => Q .next s
  | .ret v => Q (.ret v) s
theorem forc (h : wpAny (model prog w) A (eval iter env) (fun xv s₁ => wpAny (model prog w) A (pyIter xv) (fun it s₂ => ForRest prog w A E env y px body Q it s₂) E s₁) E s) (hs : ∀ x, foldedSetIterable iter env x = pure x) :
    wpAny (model prog w) A (exec (.For (.Name y px) iter body [] pos) env) Q E s := wpAny_For h hs
theorem for_turn (hE : PassesOwn (model prog w) A env E)
    (h : wpAny (model prog w) A (pyNext it) (fun r s₁ => match r with
      | none => Q .next s₁
      | some v => wpAny (model prog w) A (storeName env y v) (fun _ s₂ => wpAny (model prog w) A (execs body env) (ForPost prog w A E env y px body Q it) E s₂) E s₁) E s) : ForRest prog w A E env y px body Q it s := by
  refine codeAny_of_tree ?_
  show wpAny _ A ((forTurn (.Name y px) it body [] env).onRaise (fun x => do noteFrame x env; theTreesLotGoes x)) _ _ s
  refine wpAny_noted ?_
  simp only [forTurn]
  refine wpAny_bind (wpAny_standAt (wpAny_bind (wpAny_onRaise (wpAny_mono h (fun r s₁ h₁ => ?_) fun e s' x => wpAny_standAt (hE e s' x)))))
  cases r with
  | none => exact wpAny_pure ⟨rfl, codeAny_block (wpAny_execs_nil h₁)⟩
  | some v =>
    refine wpAny_bind (wpAny_of_eq (show letOwnedTupleGo (.Name y px) it v = pure () from rfl) ?_)
    refine wpAny_bind (wpAny_mono (wpAny_assign_Name h₁) (fun _ s₂ h₂ => wpAny_bind (wpAny_mono h₂ (fun f s₃ h₃ => ?_) hE)) hE)
    cases f with
    | next => exact wpAny_pure ⟨rfl, h₃⟩
    | cont => exact wpAny_pure ⟨rfl, h₃⟩
    | brk => exact wpAny_pure h₃
    | ret v => exact wpAny_pure h₃
theorem forc_turn (hE : PassesOwn (model prog w) A env E) (hh : A.handled = none) (F : Fr h₀ L s.heap m) (N : News h₀ L s.heap ((I, krsIt x left c) :: rest)) (hoff : ∀ p ∈ rest, p.1 ≠ I) (hl : left = ((k + 1 : Nat) : Int)) (hx : x + c = x2)
    (h : ∀ h' t tk, Fr h₀ L h' m → News h₀ L h' ((I, krsIt x2 (k : Int) c) :: rest) →
      wpAny (model prog w) A (storeName env y (.int x t)) (fun _ s₂ => wpAny (model prog w) A (execs body env) (ForPost prog w A E env y px body Q (.ref I)) E s₂) E { s with heap := h', toks := tk }) :
    ForRest prog w A E env y px body Q (.ref I) s := by
  subst hl hx
  refine for_turn hE ?_
  have W := Walks.range (prog := prog) (w := w) hh I x c (k + 1)
  have hI := N _ (.head _)
  refine W.item 0 s _ _ (Nat.succ_pos k) (by show IsRangeIter s.heap I (x + ((0 : Nat) : Int) * c) (((k + 1 : Nat) : Int) - ((0 : Nat) : Int)) c; rw [show x + ((0 : Nat) : Int) * c = x by simp, show ((k + 1 : Nat) : Int) - ((0 : Nat) : Int) = ((k + 1 : Nat) : Int) by simp]; exact hI.1) fun v h' tk hP hst hk => ?_
  obtain ⟨t, rfl⟩ := hP
  have hst' : h'.get? I = some (krsIt (x + c) (k : Int) c) := by
    have q : h'.get? I = some (krsIt (x + ((0 + 1 : Nat) : Int) * c) (((k + 1 : Nat) : Int) - ((0 + 1 : Nat) : Int)) c) := hst
    have e1 : x + ((0 + 1 : Nat) : Int) * c = x + c := by simp
    have e2 : ((k + 1 : Nat) : Int) - ((0 + 1 : Nat) : Int) = (k : Int) := by omega
    rw [e1, e2] at q
    exact q
  have e0 : x + ((0 : Nat) : Int) * c = x := by simp
  rw [e0]
  refine h h' t tk ⟨F.ns.at' fun o e => hk L o (fun q => hI.2.1 (List.mem_singleton.mp q).symm) e, fun b o e => hk b o (fun q => ?_) (F.keep b o e), F.above⟩ (fun p hp => ?_)
  · rw [List.mem_singleton.mp q, hI.2.2] at e; cases e
  · rcases List.mem_cons.mp hp with rfl | hp
    · exact ⟨hst', hI.2⟩
    · exact ⟨hk _ _ (fun q => hoff p hp (List.mem_singleton.mp q)) (N p (.tail _ hp)).1, (N p (.tail _ hp)).2⟩
theorem forc_end (hE : PassesOwn (model prog w) A env E) (hh : A.handled = none) (F : Fr h₀ L s.heap m) (N : News h₀ L s.heap ((I, krsIt x left c) :: rest)) (hoff : ∀ p ∈ rest, p.1 ≠ I) (hl : left = 0)
    (h : ∀ h' tk, Fr h₀ L h' m → News h₀ L h' rest → Q .next { s with heap := h', toks := tk }) : ForRest prog w A E env y px body Q (.ref I) s := by
  subst hl
  refine for_turn hE ?_
  have W := Walks.range (prog := prog) (w := w) hh I x c 0
  have hI := N _ (.head _)
  refine W.done s _ _ (by show IsRangeIter s.heap I (x + ((0 : Nat) : Int) * c) (((0 : Nat) : Int) - ((0 : Nat) : Int)) c; rw [show x + ((0 : Nat) : Int) * c = x by simp, show ((0 : Nat) : Int) - ((0 : Nat) : Int) = 0 by simp]; exact hI.1) fun h' tk hk => ?_
  refine h h' tk ⟨F.ns.at' fun o e => hk L o (fun q => hI.2.1 (List.mem_singleton.mp q).symm) e, fun b o e => hk b o (fun q => ?_) (F.keep b o e), F.above⟩ (fun p hp => ?_)
  · rw [List.mem_singleton.mp q, hI.2.2] at e; cases e
  · exact ⟨hk _ _ (fun q => hoff p hp (List.mem_singleton.mp q)) (N p (.tail _ hp)).1, (N p (.tail _ hp)).2⟩
inductive Del (I : Addr) (o : Obj) : List (Addr × Obj) → List (Addr × Obj) → Prop
  | head {r} : (∀ p ∈ r, p.1 ≠ I) → Del I o ((I, o) :: r) r
  | tail {p r r'} : p.1 ≠ I → Del I o r r' → Del I o (p :: r) (p :: r')
theorem Del.front {I : Addr} {o : Obj} : ∀ {l l' : List (Addr × Obj)}, Del I o l l' → (∀ p ∈ (I, o) :: l', p ∈ l) ∧ ∀ p ∈ l', p.1 ≠ I
  | _, _, .head h => ⟨fun p hp => hp, h⟩
  | _, _, .tail (p := q) h d => by
    obtain ⟨a, b⟩ := d.front
    refine ⟨fun p hp => ?_, fun p hp => ?_⟩
    · rcases List.mem_cons.mp hp with rfl | hp
      · exact .tail _ (a _ (.head _))
      · rcases List.mem_cons.mp hp with rfl | hp
        · exact .head _
        · exact .tail _ (a _ (.tail _ hp))
    · rcases List.mem_cons.mp hp with rfl | hp
      · exact h
      · exact b p hp
theorem forc_turnD {all : List (Addr × Obj)} (hE : PassesOwn (model prog w) A env E) (hh : A.handled = none) (F : Fr h₀ L s.heap m) (N : News h₀ L s.heap all) (D : Del I (krsIt x left c) all rest) (hl : left = ((k + 1 : Nat) : Int)) (hx : x + c = x2)
    (h : ∀ h' t tk, Fr h₀ L h' m → News h₀ L h' ((I, krsIt x2 (k : Int) c) :: rest) →
      wpAny (model prog w) A (storeName env y (.int x t)) (fun _ s₂ => wpAny (model prog w) A (execs body env) (ForPost prog w A E env y px body Q (.ref I)) E s₂) E { s with heap := h', toks := tk }) :
    ForRest prog w A E env y px body Q (.ref I) s := forc_turn hE hh F (fun p hp => N p (D.front.1 p hp)) D.front.2 hl hx h
theorem forc_endD {all : List (Addr × Obj)} (hE : PassesOwn (model prog w) A env E) (hh : A.handled = none) (F : Fr h₀ L s.heap m) (N : News h₀ L s.heap all) (D : Del I (krsIt x left c) all rest) (hl : left = 0)
    (h : ∀ h' tk, Fr h₀ L h' m → News h₀ L h' rest → Q .next { s with heap := h', toks := tk }) : ForRest prog w A E env y px body Q (.ref I) s := forc_end hE hh F (fun p hp => N p (D.front.1 p hp)) D.front.2 hl h
noncomputable def ForJ (J : Shared → Prop) (Q : Flow → Shared → Prop) (f : Flow) (s : Shared) : Prop :=
  match f with
  | .next => J s
  | .cont => J s
  | .brk => Q .next s
  | .ret v => Q (.ret v) s
/-- the loop by an invariant over the number of turns done; the iterator, at its head, is part of the state -/
theorem forc_ind {n : Nat} {x0 : Int} (Inv : Nat → (Str → Option Value) → List (Addr × Obj) → Prop) (hE : PassesOwn (model prog w) A env E) (hh : A.handled = none) (hL : env.locals = L)
    (F : Fr h₀ L s.heap m) (N : News h₀ L s.heap ((I, krsIt x0 (n : Int) c) :: rest)) (hoff : ∀ p ∈ rest, p.1 ≠ I) (h0 : Inv 0 m rest)
    (turn : ∀ i m' rest' h' t tk, i < n → Inv i m' rest' → (∀ p ∈ rest', p.1 ≠ I) → Fr h₀ L h' m' → News h₀ L h' ((I, krsIt (x0 + ((i + 1 : Nat) : Int) * c) ((n - (i + 1) : Nat) : Int) c) :: rest') →
      wpAny (model prog w) A (storeName env y (.int (x0 + (i : Int) * c) t)) (fun _ s₂ => wpAny (model prog w) A (execs body env)
        (ForJ (fun s₃ => ∃ h₃ tk₃ m₃ rest₃, s₃ = { s with heap := h₃, toks := tk₃ } ∧ Fr h₀ L h₃ m₃ ∧ News h₀ L h₃ ((I, krsIt (x0 + ((i + 1 : Nat) : Int) * c) ((n - (i + 1) : Nat) : Int) c) :: rest₃) ∧ (∀ p ∈ rest₃, p.1 ≠ I) ∧ Inv (i + 1) m₃ rest₃) Q) E s₂) E { s with heap := h', toks := tk })
    (done : ∀ m' rest' h' tk, Inv n m' rest' → Fr h₀ L h' m' → News h₀ L h' rest' → Q .next { s with heap := h', toks := tk }) :
    ForRest prog w A E env y px body Q (.ref I) s := by
  have key : ∀ j i, i + j = n → ∀ m' rest' h' tk, Inv i m' rest' → (∀ p ∈ rest', p.1 ≠ I) → Fr h₀ L h' m' → News h₀ L h' ((I, krsIt (x0 + (i : Int) * c) (j : Int) c) :: rest') →
      ForRest prog w A E env y px body Q (.ref I) { s with heap := h', toks := tk } := by
    intro j
    induction j with
    | zero =>
      intro i e m' rest' h' tk hI ho F' N'
      have e' : i = n := by omega
      subst e'
      exact forc_end (s := { s with heap := h', toks := tk }) hE hh F' N' ho rfl fun h2 tk2 F2 N2 => done m' rest' h2 tk2 hI F2 N2
    | succ j ih =>
      intro i e m' rest' h' tk hI ho F' N'
      have e1 : x0 + (i : Int) * c + c = x0 + ((i + 1 : Nat) : Int) * c := by push_cast; rw [Int.add_mul, Int.one_mul, Int.add_assoc]
      have e2 : n - (i + 1) = j := by omega
      refine forc_turn (s := { s with heap := h', toks := tk }) (k := j) hE hh F' N' ho rfl e1 fun h2 t tk2 F2 N2 => ?_
      have T := turn i m' rest' h2 t tk2 (by omega) hI ho F2 (by rw [e2]; exact N2)
      refine wpAny_mono T (fun _ s₂ h₂ => wpAny_mono h₂ (fun f s₃ h₃ => ?_) fun _ _ q => q) fun _ _ q => q
      have nxt : (∃ h₃ tk₃ m₃ rest₃, s₃ = { s with heap := h₃, toks := tk₃ } ∧ Fr h₀ L h₃ m₃ ∧ News h₀ L h₃ ((I, krsIt (x0 + ((i + 1 : Nat) : Int) * c) ((n - (i + 1) : Nat) : Int) c) :: rest₃) ∧ (∀ p ∈ rest₃, p.1 ≠ I) ∧ Inv (i + 1) m₃ rest₃) → ForRest prog w A E env y px body Q (.ref I) s₃ := by
        rintro ⟨h4, tk4, m4, rest4, e4, F4, N4, ho4, hI4⟩
        rw [e2] at N4
        rw [e4]
        exact ih (i + 1) (by omega) m4 rest4 h4 tk4 hI4 ho4 F4 N4
      cases f with
      | next => exact nxt h₃
      | cont => exact nxt h₃
      | brk => exact h₃
      | ret v => exact h₃
  have := key n 0 (by omega) m rest s.heap s.toks h0 hoff F (by simpa using N)
  exact this
theorem forc_iter {r : Addr} {a₀ b₀ : Int} {t₀ u₀ v₀ : Tok} {n : Nat} (hr : IsRange s.heap r a₀ b₀ c t₀ u₀ v₀) (hsmall : Builtin.Range.small a₀ b₀ c = true) (hn : Builtin.Range.rangeSize a₀ b₀ c = (n : Int)) (F : Fr h₀ L s.heap m) (N : News h₀ L s.heap rest)
    (h : ∀ I h', Fr h₀ L h' m → News h₀ L h' ((I, krsIt a₀ (n : Int) c) :: rest) → (∀ p ∈ rest, p.1 < I) → ForRest prog w A E env y px body Q (.ref I) { s with heap := h' }) :
    wpAny (model prog w) A (pyIter (.ref r)) (fun it s₂ => ForRest prog w A E env y px body Q it s₂) E s := by
  refine wpAny_pyIter_range hr hsmall ?_
  rw [hn]
  exact h _ _ (F.push _) (News.push F N _) fun p hp => Heap.lt_size (N p hp).1
end
end
end Mine.Fc
end
theorem Mine.Off.t8 : True := by
  w_top off
  first | (walk1; done) | trivial
section
open PySem PySem.W PyProof.Rows PySem.Calls PySem.Spec



namespace Mine.Fz
section
variable {w : World} {p : Program} {loose : List Str} {mean : ExcName → Option Value} {mg mb : Str → Option Value}
  {dp un : Nat} {gd : Option (List Code)} {cn : Str} {cs : Scope} {a : Addr} {ccd : Value} {cl : List (Str × Addr)} {outer : List Env} {A₀ : Around} {base h₀ : Heap} {L : Addr} {m : Str → Option Value} {news : List (Addr × Obj)} {s : Shared}
    {Q E : Value → Shared → Prop}

section
variable {prog : Program} {A₀ A : Around} {s : Shared} {base h₀ : Heap} {outer : List Env} {K : Frag} {L : Addr} {m mg mb : Str → Option Value} {env : Env} {own frz : List (Addr × Obj)} {p : Program} {loose : List Str} {mean : ExcName → Option Value}
  {R : Result → Shared → Prop} {name qual : Str} {params : Arguments} {body : List Stmt} {scope : Scope} {dV kV doc pm cdv ct oc : Value} {an od : Option Addr} {osl : Array (Option Value)} {f : Addr} {args : Args} {binds : List (Str × Value)}
/-- a call whose made objects beside `own` stand still: the def's frame is based on a heap that bears them -/
theorem code_frzC (B : Below A₀ base outer h₀) (F : Fr h₀ L s.heap m) (X₀ : K.In h₀) (N : News h₀ L s.heap own) (Nf : News h₀ L s.heap frz) (hdis : ∀ p ∈ frz, ∀ q ∈ own, p.1 ≠ q.1) (T : Top p loose mean mg mb h₀) (hA : A.frames = some (env :: outer)) (hf : env.frame = some L) (hke : env.scope.kind = .function)
    (ho : K.lookup f = some ⟨oc, od, .func (fnOf name qual params body scope dV kV doc pm an cdv ct), osl⟩) (hcd : codeIn K cdv qual = true) (hroom : A.depth < recursionLimit)
    (hbind : BindsTo s (fnOf name qual params body scope dV kV doc pm an cdv ct) args binds) (hkind : (binds.all fun y => scope.names.lookup y.1 == some .local || scope.names.lookup y.1 == some .cell) = true)
    (hnd : ((cellsFrom 0 scope.names []).map (·.1)).Nodup)
    (h : ∀ g L' h₁ tk cells, (∀ q ∈ frz, g.get? q.1 = some q.2) → (∀ h', (∀ b o, g.get? b = some o → h'.get? b = some o) → News h₀ L h' frz) → (∀ q ∈ frz, q.1 < L') →
      Fr h₀ L g m → Fr g L' h₁ (bindL (envOfC qual scope L' f cdv).kindOf binds fun _ => none) → News g L' h₁ (cells ++ own) →
      CellsAre (bindC (envOfC qual scope L' f cdv).kindOf binds fun _ => none) (cellsFrom (L' + 1) scope.names []) cells → Below A base (env :: outer) g → K.In g → Top p loose mean mg mb g → (∀ q ∈ own, q.1 < L') →
      wpAny (model prog w) (A.deeper (envOfC qual scope L' f cdv)) (execs body (envOfC qual scope L' f cdv))
        (fun fl s' => LeaveK h₀ L m g R (match fl with | .ret v => v | _ => .none) s')
        (fun e s' => wpAny (model prog w) (A.deeper (envOfC qual scope L' f cdv)) (leaving (envOfC qual scope L' f cdv) e) (fun _ s'' => R (.error e) s'') (fun e' s'' => R (.error e') s'') s')
        { s with heap := h₁, toks := tk })
    (hco : scope.isCoroutine = false) (hgen : scope.isGenerator = false) (hk : scope.kind = .function) : codeAny (model prog w) A (.call (.ref f) args) R s := by
  have G := groundX (R := R) B F N hA hf hke
  have stay : ∀ q ∈ frz, (hideAll s.heap (own.map (·.1))).get? q.1 = some q.2 := fun q hq => hideAll_get _ (Nf q hq).1 fun hm => by
    obtain ⟨r, hr, e⟩ := List.mem_map.mp hm
    exact hdis q hq r hr e.symm
  refine codeAny_call_function hroom ((X₀.keeps F.keep) _ _ ho) rfl hco hgen rfl (codeRec_of (X₀.keeps F.keep) hcd) (hbind _ _ _ _ ?_)
  refine wpAny_newFunctionEnv_cells hk (kindsX hkind _) fun env' he s' x => ?_
  subst he
  refine ⟨(T.nolimit.keeps F.keep).keeps x.toInCall.keep, codeAny_func ?_⟩
  obtain ⟨h₁, tk, rfl, _⟩ := x.done
  have hk₁ := x.toInCall.keep
  obtain ⟨cells, NC, Y⟩ := Cl.news (h₀ := s.heap) (Nat.le_refl _) fun n c hm => ⟨x.cell n c (lookup_of_mem_nodup (cellsFrom_names scope.names 0 (s.heap.objs.size + 1) [] [] rfl ▸ hnd) hm), x.above n c hm⟩
  refine wpAny_mono (h _ s.heap.objs.size h₁ tk cells stay (fun h' hk' q hq => ⟨hk' _ _ (stay q hq), (Nf q hq).2⟩) (fun q hq => Heap.lt_size (Nf q hq).1) G.1
    ⟨x.toInCall.ns, fun b o e => hk₁ b o (of_hideAll _ e), Nat.le_of_eq (hideAll_size _ _)⟩ (fun q hq => ?_) Y G.2.1 (X₀.keeps fun b o e => G.2.2.1 b o e) (T.keeps fun b o e => G.2.2.1 b o e) (fun q hq => Heap.lt_size (N q hq).1)) (fun fl s' hl => G.2.2.2 _ _ hl) fun _ _ y => y
  rcases List.mem_append.mp hq with hq | hq
  · refine ⟨(NC q hq).1, (NC q hq).2.1, ?_⟩
    cases e : (hideAll s.heap (own.map (·.1))).get? q.1 with
    | none => rfl
    | some o => have := of_hideAll _ e; rw [(NC q hq).2.2] at this; cases this
  · exact ⟨hk₁ _ _ (N q hq).1, Nat.ne_of_lt (Heap.lt_size (N q hq).1), hideAll_none _ (List.mem_map_of_mem hq)⟩
end
end
end Mine.Fz
end
theorem Mine.Off.t9 : True := by
  w_top off
  first | (walk1; done) | trivial
section
open PySem PySem.W PyProof.Rows PySem.Calls PyProof.V PySem.Spec



namespace Mine.Cm
section
variable {w : World} {p : Program} {loose : List Str} {mean : ExcName → Option Value} {mg mb : Str → Option Value}
  {dp un : Nat} {gd : Option (List Code)} {cn : Str} {cs : Scope} {a : Addr} {ccd : Value} {cl : List (Str × Addr)} {outer : List Env} {A₀ : Around} {base h₀ : Heap} {L : Addr} {m : Str → Option Value} {news : List (Addr × Obj)} {s : Shared}
    {Q E : Value → Shared → Prop}

section
variable {g h' : Heap} {I C D x : Addr} {mm : Str → Option Value} {s₁ : Shared} {oI oC oD ox : Obj} {g1 g2 g3 : Addr × Obj} {S : List (Addr × Obj) → Prop} {rest : Value → List (Addr × Obj) → Prop} {y : Value} {tk : Nat} {nw : List (Addr × Obj)}
theorem ce_same (F : Fr g L h' mm) (N : News g L h' ((I, oI) :: (C, oC) :: (D, oD) :: nw)) (off : LCg.Off3 I C D nw) (hS : S nw) (r : rest y nw) :
    LCg.CompEnd g L mm s₁ I oI C oC D oD S rest y { s₁ with heap := h', toks := tk } := LCg.CompEnd.intro F N nw (fun _ hp => hp) off hS r
theorem ce_new (F : Fr g L h' mm) (N : News g L h' ((x, ox) :: g1 :: g2 :: g3 :: (I, oI) :: (C, oC) :: (D, oD) :: nw)) (off : LCg.Off3 I C D nw) (n1 : @Ne Nat x I) (n2 : @Ne Nat x C) (n3 : @Ne Nat x D) (hS : S ((x, ox) :: nw)) (r : rest y ((x, ox) :: nw)) :
    LCg.CompEnd g L mm s₁ I oI C oC D oD S rest y { s₁ with heap := h', toks := tk } := LCg.CompEnd.intro F N ((x, ox) :: nw) (fun p hp => by
      rcases List.mem_cons.mp hp with rfl | hp
      · exact .tail _ (.tail _ (.tail _ (.tail _ (.head _))))
      rcases List.mem_cons.mp hp with rfl | hp
      · exact .tail _ (.tail _ (.tail _ (.tail _ (.tail _ (.head _)))))
      rcases List.mem_cons.mp hp with rfl | hp
      · exact .tail _ (.tail _ (.tail _ (.tail _ (.tail _ (.tail _ (.head _))))))
      rcases List.mem_cons.mp hp with rfl | hp
      · exact .head _
      exact .tail _ (.tail _ (.tail _ (.tail _ (.tail _ (.tail _ (.tail _ hp)))))))  ⟨⟨n1, n2, n3⟩, off⟩ hS r
end
end
end Mine.Cm
end
theorem Mine.Off.t10 : True := by
  w_top off
  first | (walk1; done) | trivial
section
open PySem PySem.W PyProof.Rows PySem.Calls PySem.Spec



namespace Mine.Fe
section
variable {w : World} {p : Program} {loose : List Str} {mean : ExcName → Option Value} {mg mb : Str → Option Value}
  {dp un : Nat} {gd : Option (List Code)} {cn : Str} {cs : Scope} {a : Addr} {ccd : Value} {cl : List (Str × Addr)} {outer : List Env} {A₀ : Around} {base h₀ : Heap} {L : Addr} {m : Str → Option Value} {news : List (Addr × Obj)} {s : Shared}
    {Q E : Value → Shared → Prop}

section
open PySem.AutoSeq1 (wpAny_loadPart')
/-- enumerate, made over a tuple -/
theorem enumT_meets (l : Addr) (items : Array Value) (n : Nat) (dct : Option Addr) (sl : Array (Option Value)) :
    Meets (Builtin.«enumerate.__new__» ⟨[.type "enumerate", .ref l], []⟩) (fun _ R s => s.heap.get? l = some { cls := .type "tuple", dict := dct, data := .seq items n, slots := sl } ∧
      R (.ok (.ret (.ref (s.heap.push { cls := .type "tuple_iterator", data := .fields #[.ref l, .int 0 0] }).objs.size)))
        { s with heap := (s.heap.push { cls := .type "tuple_iterator", data := .fields #[.ref l, .int 0 0] }).push { cls := .type "enumerate", data := .fields #[.none, .bool false, .ref s.heap.objs.size, rawInt 0, .none, .none] } }) :=
  .of_wp fun prog w A R s h => by
    obtain ⟨hp, g, d, tk, os⟩ := s; obtain ⟨hl, h⟩ := h
    have hsub := sub_enumerate
    have hL : Heap.IsTuple (Shared.heap ⟨hp, g, d, tk, os⟩) l items := ⟨_, hl, rfl, n, rfl⟩
    wp_walk using wpAny_loadPart' hl
    refine wpAny_stack_any fun st => wpAny_pure ?_
    split
    · rename_i c _ _ _ _ _
      cases (c == Value.type "enumerate")
      · wp_walk using wpAny_loadPart' hl, wpAny_pyIter_tuple hL
        exact ⟨_, rfl, h⟩
      · wp_walk using wpAny_loadPart' hl, wpAny_pyIter_tuple hL
        exact ⟨_, rfl, h⟩
    · wp_walk using wpAny_loadPart' hl, wpAny_pyIter_tuple hL
      exact ⟨_, rfl, h⟩
variable {prog : Program} {A : Around}
theorem enumT_call {l : Addr} {items : Array Value} (hL : s.heap.IsTuple l items)
    (h : ∀ h', IsEnum h' (s.heap.objs.size + 1) s.heap.objs.size 0 .none → h'.IsTupleIter s.heap.objs.size l 0 →
      (∀ b o, s.heap.get? b = some o → h'.get? b = some o) → Q (.ref (s.heap.objs.size + 1)) { s with heap := h' }) :
    wpAny (model prog w) A (call (.type "enumerate") [.ref l]) Q E s := by
  obtain ⟨⟨c, dct, dt, sl⟩, hl, hc, n, hd⟩ := hL
  replace hc : c = .type "tuple" := hc
  replace hd : dt = .seq items n := hd
  subst hc hd
  refine callType_new F.called_enumerate (by decide) (F.typeCall_enumerate_1 _) (F.newCall_enumerate_1 _) (fun obj => F.args_object_init_2 obj _) F.entry_enumerate_new
    (enumT_meets l items n dct sl) ⟨hl, ?_⟩
  have hz : (s.heap.push { cls := .type "tuple_iterator", data := .fields #[.ref l, .int 0 0] }).objs.size = s.heap.objs.size + 1 := Heap.size_push ..
  show _ ∧ _
  rw [hz]
  have he : IsEnum ((s.heap.push { cls := .type "tuple_iterator", data := .fields #[.ref l, .int 0 0] }).push
      { cls := .type "enumerate", data := .fields #[.none, .bool false, .ref s.heap.objs.size, rawInt 0, .none, .none] }) (s.heap.objs.size + 1) s.heap.objs.size 0 .none := by
    have := Heap.get?_push_size (s.heap.push { cls := .type "tuple_iterator", data := .fields #[.ref l, .int 0 0] })
      (o := { cls := .type "enumerate", data := .fields #[.none, .bool false, .ref s.heap.objs.size, rawInt 0, .none, .none] }) rfl
    rw [hz] at this; exact this
  refine ⟨⟨_, he, rfl⟩, h _ he ⟨_, Heap.get?_push_of_some _ (Heap.get?_push_size _ rfl), rfl, rfl⟩ fun b o x => Heap.get?_push_of_some _ (Heap.get?_push_of_some _ x)⟩
/-- one item of the tuple within -/
theorem nextT_item {it l : Addr} {i : Nat} {items : Array Value} {x : Value} (hit : s.heap.IsTupleIter it l i) (hl : s.heap.IsTuple l items) (hx : items[i]? = some x)
    (hQ : ∀ h', h'.IsTupleIter it l (i + 1) → Heap.SameBut it s.heap h' → Q x { s with heap := h' }) :
    wpAny (model prog w) A (Builtin.SmallTypes.nextOf (.ref it)) Q E s := by
  obtain ⟨o, ho, hc, hd⟩ := id hit
  obtain ⟨ol, hol, _, nl, hdl⟩ := hl
  unfold Builtin.SmallTypes.nextOf
  refine wpAny_bind (wpAny_callSpecial?_slot (name := Str.ofString "__next__") hit.typeIs F.slot_tuple_iterator_next
    (wpAny_call_entry F.slot_tuple_iterator_next hit.typeIs F.entry_tuple_iterator_next ?_ (F.args_tuple_iterator_next_1 _)))
  show wpAny _ _ (field (.ref it) 0 >>= _) _ _ s
  refine wpAny_bind (wpAny_field ho hd (x := .ref l) rfl ?_)
  show wpAny _ _ (if (Value.ref l == Value.none) = true then _ else _) _ _ s
  rw [if_neg (show ¬ ((Value.ref l == Value.none) = true) from Bool.false_ne_true)]
  show wpAny _ _ (field (.ref it) 1 >>= _) _ _ s
  refine wpAny_bind (wpAny_field ho hd (x := .int i 0) rfl ?_)
  show wpAny _ _ (seqItems? (.ref l) >>= _) _ _ s
  refine wpAny_bind (wpAny_seqItems hol hdl ?_)
  simp only [Int.toNat_natCast, hx]
  refine wpAny_bind (wpAny_setField ho hd (by simp) (wpAny_pure ⟨x, rfl, wpAny_pure (hQ _ ?_ (Heap.SameBut.update ..))⟩))
  exact ⟨_, Heap.get?_update_self _ ho (Obj.isFreed_of_fields (Obj.data_mapFields hd _)), (Obj.cls_mapFields ..).trans hc, by
    rw [Obj.data_mapFields hd]; simp [rawInt]⟩
theorem nextT_end {it l : Addr} {i : Nat} {items : Array Value} (hh : A.handled = none) (hit : s.heap.IsTupleIter it l i) (hl : s.heap.IsTuple l items) (hx : items[i]? = none)
    (hE : ∀ h' e, Heap.ExtBut it s.heap h' → (∃ o, h'.get? e = some o ∧ o.cls = .type "StopIteration") → E (.ref e) { s with heap := h' }) :
    wpAny (model prog w) A (Builtin.SmallTypes.nextOf (.ref it)) Q E s := by
  obtain ⟨o, ho, hc, hd⟩ := id hit
  obtain ⟨ol, hol, _, nl, hdl⟩ := hl
  unfold Builtin.SmallTypes.nextOf
  refine wpAny_bind (wpAny_callSpecial?_slot (name := Str.ofString "__next__") hit.typeIs F.slot_tuple_iterator_next
    (wpAny_call_entry F.slot_tuple_iterator_next hit.typeIs F.entry_tuple_iterator_next ?_ (F.args_tuple_iterator_next_1 _)))
  show wpAny _ _ (field (.ref it) 0 >>= _) _ _ s
  refine wpAny_bind (wpAny_field ho hd (x := .ref l) rfl ?_)
  show wpAny _ _ (if (Value.ref l == Value.none) = true then _ else _) _ _ s
  rw [if_neg (show ¬ ((Value.ref l == Value.none) = true) from Bool.false_ne_true)]
  show wpAny _ _ (field (.ref it) 1 >>= _) _ _ s
  refine wpAny_bind (wpAny_field ho hd (x := .int i 0) rfl ?_)
  show wpAny _ _ (seqItems? (.ref l) >>= _) _ _ s
  refine wpAny_bind (wpAny_seqItems hol hdl ?_)
  simp only [Int.toNat_natCast, hx]
  refine wpAny_bind (wpAny_rule (wpAny_bind (wpAny_setField ho hd (by simp) ?_)))
  show wpAny _ _ (newExc (.type "StopIteration") [] >>= _) _ _ _
  refine wpAny_bind ?_
  simp only [newExc, newTuple]
  refine wpAny_bind (wpAny_newObj_type ?_ (by size_fits))
  refine wpAny_bind (m := firstArgMember _ _) (wpAny_of_eq (a := Value.none) (by first | rfl | (simp only [firstArgMember]; rfl)) ?_)
  refine wpAny_newObj_type ?_ (by size_fits)
  simp only [raiseNew]
  refine wpAny_bind (wpAny_handled ?_)
  first | rw [show A.in1.handled = none from hh] | rw [hh]
  refine wpAny_bind (wpAny_pure (wpAny_throw ?_))
  exact hE _ _ (((Heap.SameBut.update ..).extBut.push _).push _) ⟨_, Heap.get?_push_size _ rfl, rfl⟩
/-- one pair of enumerate, whatever stands within, if its next item is drawn -/
theorem enumT_pair {e it : Addr} {i : Nat} {x old : Value} {J : Heap → Prop} (he : IsEnum s.heap e it i old) (hne : e ≠ it)
    (inner : ∀ (A' : Around) (Q' E' : Value → Shared → Prop), (∀ h', J h' → Heap.SameBut it s.heap h' → Q' x { s with heap := h' }) → wpAny (model prog w) A' (Builtin.SmallTypes.nextOf (.ref it)) Q' E' s)
    (hJ : ∀ h h', J h → (∀ b o, b ≠ e → h.get? b = some o → h'.get? b = some o) → J h')
    (hQ : ∀ h', IsEnumOut h' e it ((i : Int) + 1) x s.heap.objs.size → J h' →
      h'.get? s.heap.objs.size = some { cls := .type "tuple", data := .seq #[.int i s.toks, x] } →
      (∀ b o, b ≠ e → b ≠ it → s.heap.get? b = some o → h'.get? b = some o) → Q (.ref s.heap.objs.size) { s with heap := h', toks := s.toks + 1 }) :
    wpAny (model prog w) A (Builtin.«enumerate.__next__» ⟨[.ref e], []⟩) (fun fin s' => ∃ v, fin = .done (.ret v) ∧ Q v s') E s := by
  obtain ⟨hp, g, d, tk, os⟩ := s
  show wpAny _ _ (field (.ref e) 2 >>= _) _ _ _
  refine wpAny_bind (wpAny_field he rfl (x := .ref it) rfl ?_)
  refine wpAny_bind (inner _ _ _ fun h₁ j₁ hs₁ => ?_)
  replace hs₁ : Heap.SameBut it hp h₁ := hs₁
  have he₁ : IsEnum h₁ e it i old := (hs₁.2 e hne).trans he
  show wpAny _ _ (field (.ref e) 3 >>= _) _ _ ⟨h₁, g, d, tk, os⟩
  refine wpAny_bind (wpAny_field he₁ rfl (x := rawInt i) rfl ?_)
  show wpAny _ _ (field (.ref e) 4 >>= _) _ _ ⟨h₁, g, d, tk, os⟩
  refine wpAny_bind (wpAny_field he₁ rfl (x := .none) rfl ?_)
  show wpAny _ _ (mkInt i >>= _) _ _ ⟨h₁, g, d, tk, os⟩
  refine wpAny_bind (wpAny_mkInt ?_)
  show wpAny _ _ (setField (.ref e) 3 (rawInt ((i : Int) + 1)) >>= _) _ _ ⟨h₁, g, d, tk + 1, os⟩
  refine wpAny_bind (wpAny_setField_rec he₁ (by simp) fun h₂ he₂ hs₂ => ?_)
  replace hs₂ : Heap.SameBut e h₁ h₂ := hs₂
  replace he₂ : IsEnum h₂ e it ((i : Int) + 1) old := he₂
  show wpAny _ _ (setField (.ref e) 4 .none >>= _) _ _ ⟨h₂, g, d, tk + 1, os⟩
  refine wpAny_bind (wpAny_setField_rec he₂ (by simp) fun h₃ he₃ hs₃ => ?_)
  replace hs₃ : Heap.SameBut e h₂ h₃ := hs₃
  replace he₃ : IsEnum h₃ e it ((i : Int) + 1) old := he₃
  show wpAny _ _ (newTuple [.int i tk, x] >>= _) _ _ ⟨h₃, g, d, tk + 1, os⟩
  refine wpAny_bind (wpAny_newTuple ?_)
  have he₄ : IsEnum (h₃.push { cls := .type "tuple", data := .seq #[.int i tk, x] }) e it ((i : Int) + 1) old := Heap.get?_push_of_some _ he₃
  have j₄ : J (h₃.push { cls := .type "tuple", data := .seq #[.int i tk, x] }) := hJ _ _ j₁ fun b o hb e => Heap.get?_push_of_some _ (hs₃.extBut b o hb (hs₂.extBut b o hb e))
  generalize hh₄ : h₃.push { cls := .type "tuple", data := .seq #[.int i tk, x] } = h₄ at he₄ j₄
  have hsz : h₃.objs.size = hp.objs.size := by rw [hs₃.1, hs₂.1, hs₁.1]
  have hel : e < hp.objs.size := Heap.lt_size he
  have ht₄ : h₄.get? hp.objs.size = some { cls := .type "tuple", data := .seq #[.int i tk, x] } := by rw [← hh₄, ← hsz]; exact Heap.get?_push_size _ rfl
  have hk₄ : ∀ b o, b ≠ e → b ≠ it → hp.get? b = some o → h₄.get? b = some o := fun b o hbe hbi hb => by
    rw [← hh₄]; exact Heap.get?_push_of_some _ (hs₃.extBut b o hbe (hs₂.extBut b o hbe (hs₁.extBut b o hbi hb)))
  show wpAny _ _ (Builtin.SmallTypes.ownedTupleIsFree (.ref e) >>= _) _ _ ⟨h₄, g, d, tk + 1, os⟩
  rw [hsz]
  refine wpAny_bind ?_
  · unfold Builtin.SmallTypes.ownedTupleIsFree
    refine wpAny_bind (wpAny_field he₄ rfl (x := .none) rfl (wpAny_pure ?_))
    simp only [if_true]
    refine wpAny_bind (wpAny_rule ?_)
    refine wpAny_bind (wpAny_field he₄ rfl (x := old) rfl ?_)
    refine wpAny_bind (wpAny_setField_rec he₄ (by simp) fun h₅ he₅ hs₅ => ?_)
    replace hs₅ : Heap.SameBut e h₄ h₅ := hs₅
    replace he₅ : IsEnum h₅ e it ((i : Int) + 1) x := he₅
    show wpAny _ _ (Builtin.SmallTypes.ownedTupleHandOut (.ref e) (.ref hp.objs.size) >>= _) _ _ ⟨h₅, g, d, tk + 1, os⟩
    refine wpAny_bind ?_
    · unfold Builtin.SmallTypes.ownedTupleHandOut
      refine wpAny_bind (wpAny_setField_rec he₅ (by simp) fun h₆ he₆ hs₆ => ?_)
      replace hs₆ : Heap.SameBut e h₅ h₆ := hs₆
      replace he₆ : IsEnumOut h₆ e it ((i : Int) + 1) x hp.objs.size := he₆
      refine wpAny_setField_rec he₆ (by simp) fun h₇ he₇ hs₇ => ?_
      replace hs₇ : Heap.SameBut e h₆ h₇ := hs₇
      replace he₇ : IsEnumOut h₇ e it ((i : Int) + 1) x hp.objs.size := he₇
      have k₇ : ∀ b o, b ≠ e → h₄.get? b = some o → h₇.get? b = some o := fun b o hb y => hs₇.extBut b o hb (hs₆.extBut b o hb (hs₅.extBut b o hb y))
      exact wpAny_bind (wpAny_letGo (wpAny_pure ⟨_, rfl, hQ h₇ he₇ (hJ _ _ j₄ k₇) (k₇ _ _ (Nat.ne_of_gt hel) ht₄) fun b o hbe hbi hb => k₇ b o hbe (hk₄ b o hbe hbi hb)⟩))
theorem enumT_next {e it l : Addr} {i : Nat} {items : Array Value} {x old : Value} {Q : Option Value → Shared → Prop} (he : IsEnum s.heap e it i old) (hit : s.heap.IsTupleIter it l i) (hl : s.heap.IsTuple l items) (hx : items[i]? = some x) (hne : e ≠ it)
    (hQ : ∀ h', IsEnumOut h' e it ((i : Int) + 1) x s.heap.objs.size → h'.IsTupleIter it l (i + 1) →
      h'.get? s.heap.objs.size = some { cls := .type "tuple", data := .seq #[.int i s.toks, x] } →
      (∀ b o, b ≠ e → b ≠ it → s.heap.get? b = some o → h'.get? b = some o) → Q (some (.ref s.heap.objs.size)) { s with heap := h', toks := s.toks + 1 }) :
    wpAny (model prog w) A (pyNext (.ref e)) Q E s := by
  have hT : s.TypeIs (.ref e) "enumerate" := ⟨_, he, rfl⟩
  unfold pyNext
  exact wpAny_bind (wpAny_attempt (wpAny_callSpecial?_slot (name := Str.ofString "__next__") hT F.slot_enumerate_next
    (wpAny_call_entry F.slot_enumerate_next hT F.entry_enumerate_next
      (enumT_pair (J := fun h => h.IsTupleIter it l (i + 1)) he hne (fun A' Q' E' k => nextT_item hit hl hx k) (fun h h' ⟨o, ho, r⟩ k => ⟨o, k _ _ (Ne.symm hne) ho, r⟩) fun h' a b c k => wpAny_pure (hQ h' a b c k)) (F.args_enumerate_next_1 _))))
theorem enumT_stop {e it l : Addr} {i : Nat} {items : Array Value} {old : Value} {Q : Option Value → Shared → Prop} (hh : A.handled = none)
    (he : IsEnum s.heap e it i old) (hit : s.heap.IsTupleIter it l i) (hl : s.heap.IsTuple l items) (hx : items[i]? = none)
    (hQ : ∀ h', Heap.ExtBut it s.heap h' → Q none { s with heap := h' }) : wpAny (model prog w) A (pyNext (.ref e)) Q E s := by
  have hT : s.TypeIs (.ref e) "enumerate" := ⟨_, he, rfl⟩
  unfold pyNext
  refine wpAny_bind (wpAny_attempt (wpAny_callSpecial?_slot (name := Str.ofString "__next__") hT F.slot_enumerate_next
    (wpAny_call_entry F.slot_enumerate_next hT F.entry_enumerate_next ?_ (F.args_enumerate_next_1 _))))
  show wpAny _ _ (field (.ref e) 2 >>= _) _ _ _
  refine wpAny_bind (wpAny_field he rfl (x := .ref it) rfl ?_)
  refine wpAny_bind (nextT_end hh hit hl hx fun h' x he' hx' => ?_)
  obtain ⟨o, ho, hc⟩ := hx'
  refine wpAny_bind (wpAny_isInstance (T := "StopIteration") (b := true) ⟨o, ho, hc⟩ isSubtype_stop ?_)
  exact wpAny_pure (hQ _ he')
end
end
end Mine.Fe
end
theorem Mine.Off.t11 : True := by
  w_top off
  first | (walk1; done) | trivial
section
open Mine.Hi Mine.Fe
open PySem PySem.W PyProof.Rows PySem.Calls PySem.Spec PyProof.Rows.LCg



namespace Mine.Fe2
section
variable {w : World} {p : Program} {loose : List Str} {mean : ExcName → Option Value} {mg mb : Str → Option Value}
  {dp un : Nat} {gd : Option (List Code)} {cn : Str} {cs : Scope} {a : Addr} {ccd : Value} {cl : List (Str × Addr)} {outer : List Env} {A₀ : Around} {base h₀ : Heap} {L : Addr} {m : Str → Option Value} {news : List (Addr × Obj)} {s : Shared}
    {Q E : Value → Shared → Prop}

section
variable {prog : Program} {A : Around} {env : Env}
/-- the end of one element: what stood in the ledger stands as it stood -/
noncomputable def EnEnd (h₀ : Heap) (L : Addr) (m : Str → Option Value) (s₁ : Shared) (all : List (Addr × Obj)) (P : Value → Prop) (y : Value) (s₂ : Shared) : Prop :=
  ∃ h' tk, s₂ = { s₁ with heap := h', toks := tk } ∧ Fr h₀ L h' m ∧ News h₀ L h' all ∧ P y
/-- one element -/
noncomputable def EnElt (prog : Program) (w : World) (A : Around) (h₀ : Heap) (L : Addr) (m : Str → Option Value) (env : Env) (elt : PySem.Expr) (x x₂ : Str) (scope : Scope) (cl : List (Str × Addr)) (s : Shared) (news : List (Addr × Obj)) (items : Array Value) (P : Nat → Value → Prop) (i : Nat) : Prop :=
  ∀ e oe it oit C oC D oD m₂ h tk t v (E' : Value → Shared → Prop), items[i]? = some v → NsObj oC m₂ → m₂ x = some (.int i t) → m₂ x₂ = some v → Fr h₀ L h m → News h₀ L h ((e, oe) :: (it, oit) :: (C, oC) :: (D, oD) :: news) →
    wpAny (model prog w) A (eval elt (compEnvC scope cl C env)) (EnEnd h₀ L m { s with heap := h, toks := tk } ((e, oe) :: (it, oit) :: (C, oC) :: (D, oD) :: news) (P i)) E' { s with heap := h, toks := tk }
noncomputable def EnOk (P : Nat → Value → Prop) (ys : List Value) : Prop := ∀ j v, ys[j]? = some v → P j v
theorem EnOk.snoc {P : Nat → Value → Prop} {ys : List Value} {y : Value} (h : EnOk P ys) (k : P ys.length y) : EnOk P (ys ++ [y]) := fun j v e => by
  rcases Nat.lt_trichotomy j ys.length with q | q | q
  · exact h j v (by rwa [List.getElem?_append_left q] at e)
  · subst q
    rw [List.getElem?_append_right (Nat.le_refl _), Nat.sub_self] at e
    exact Option.some.inj e ▸ k
  · rw [List.getElem?_eq_none (by rw [List.length_append, List.length_singleton]; omega)] at e
    cases e
theorem block_EN {elt iter : PySem.Expr} {x x₂ : Str} {px px₂ tp : Pos} {tk} {scope : Scope} {cl : List (Str × Addr)} {pos : Pos} {s₂ : Shared} {e it l : Addr} {items : Array Value} {nt : Nat} {P : Nat → Value → Prop} {news : List (Addr × Obj)} {RR : Value → Addr → Result → Shared → Prop}
    (hh : A.handled = none) (hsz : items.size ≤ sizeLine) (hcell : ∀ y ∈ scope.names, y.2 ≠ .cell) (hkind : scope.kind = .function) (hx : scope.names.lookup x = some .local) (hx₂ : scope.names.lookup x₂ = some .local) (hxx : x ≠ x₂)
    (he : IsEnum s₂.heap e it (0 : Nat) .none) (hit : s₂.heap.IsTupleIter it l 0) (hei : e ≠ it)
    (F : Fr h₀ L s₂.heap m) (N : News h₀ L s₂.heap news) (hl : (l, ({ cls := .type "tuple", data := .seq items nt } : Obj)) ∈ news) (hLe : L ≠ e) (he₀ : h₀.get? e = none) (hLi : L ≠ it) (hi₀ : h₀.get? it = none) (off : ∀ p ∈ news, p.1 ≠ e ∧ p.1 ≠ it)
    (R : ∀ i, i < items.size → EnElt prog w A h₀ L m env elt x x₂ scope cl s₂ news items P i)
    (hRR : ∀ D C h tk m' ys, Fr h₀ L h m → News h₀ L h ((D, lst ys) :: news) → (∀ p ∈ news, p.1 < D) → h.Ns C m' → h₀.get? C = none → h₀.get? D = none → C ≠ L → D ≠ L → C ≠ D → (∀ p ∈ news, p.1 ≠ C) → ys.length = items.size → EnOk P ys → RR (.ref D) C (.ok .next) { s₂ with heap := h, toks := tk }) :
    wpAny (model prog w) A (newList []) (fun acc s₃ => wpAny (model prog w) A (newFunctionEnv scope env.globals cl [] env.qual none .none (some env)) (fun cenv s₄ =>
      codeAny (model prog w) A (.compStart (.ListComp elt [⟨.Tuple [.Name x px, .Name x₂ px₂] tk tp, iter, [], 0⟩] scope pos) 0 (.ref e) acc { cenv with scope := relabel scope env }) (RR acc cenv.locals) s₄) E s₃) E s₂ := by
  refine wpAny_newObj_type (wpAny_newFunctionEnv hcell (by intro y hy; simp at hy) (fun h₁ hns₁ hsb₁ => ?_) hkind)
  dsimp only at hns₁ hsb₁ ⊢
  generalize hH2 : s₂.heap.push { cls := .type "list", dict := none, data := .seq ([] : List Value).toArray } = H2 at hns₁ hsb₁ ⊢
  have hC : H2.objs.size = s₂.heap.objs.size + 1 := by rw [← hH2, Heap.size_push]
  have hDC : s₂.heap.objs.size ≠ H2.objs.size := by rw [hC]; exact Nat.ne_of_lt (Nat.lt_succ_self _)
  have below : ∀ b, b < s₂.heap.objs.size → b ≠ H2.objs.size ∧ b ≠ s₂.heap.objs.size := fun b hb => ⟨by rw [hC]; exact Nat.ne_of_lt (Nat.lt_succ_of_lt hb), Nat.ne_of_lt hb⟩
  have hel : e < s₂.heap.objs.size := Heap.lt_size he
  have hil : it < s₂.heap.objs.size := by obtain ⟨_, y, _⟩ := hit; exact Heap.lt_size y
  have old : ∀ b o, s₂.heap.get? b = some o → h₁.get? b = some o := fun b o e => hsb₁.extBut b o (below b (Heap.lt_size e)).1 (Heap.get?_push_of_some _ (hH2 ▸ Heap.get?_push_of_some _ e))
  have hacc : h₁.get? s₂.heap.objs.size = some (lst []) := hsb₁.extBut _ _ hDC (Heap.get?_push_of_some _ (hH2 ▸ Heap.get?_push_size _ rfl))
  have fresh₀ : ∀ a, s₂.heap.objs.size ≤ a → h₀.get? a = none := fun a ha => by
    cases e : h₀.get? a with
    | none => rfl
    | some o' => exact absurd (Heap.lt_size (F.keep a o' e)) (Nat.not_lt.mpr ha)
  have hD₀ : h₀.get? s₂.heap.objs.size = none := fresh₀ _ (Nat.le_refl _)
  have hC₀ : h₀.get? H2.objs.size = none := fresh₀ _ (by rw [hC]; exact Nat.le_succ _)
  have hLlt : L < s₂.heap.objs.size := F.ns.lt
  have hDL : s₂.heap.objs.size ≠ L := Ne.symm (below L hLlt).2
  have hCL : H2.objs.size ≠ L := Ne.symm (below L hLlt).1
  have lowN : ∀ p ∈ news, p.1 < s₂.heap.objs.size := fun p hp => Heap.lt_size (N p hp).1
  have loop : ∀ s₃ : Shared, s₃ = { s₂ with heap := h₁, toks := s₂.toks + ([] : List (Str × Value)).length } →
      codeAny (model prog w) A (.compLoop (.ListComp elt [⟨.Tuple [.Name x px, .Name x₂ px₂] tk tp, iter, [], 0⟩] scope pos) 0 (.ref e) (.ref s₂.heap.objs.size) (compEnvC scope cl H2.objs.size env))
        (RR (.ref s₂.heap.objs.size) H2.objs.size) s₃ := by
    rintro s₃ rfl
    refine LCp.codeAny_compLoop_pair
      (fun k s' => ∃ h' tk i ys m' old, s' = { s₂ with heap := h', toks := tk } ∧ i ≤ items.size ∧ k = items.size + 1 - i ∧ ys.length = i ∧ EnOk P ys ∧ IsEnum h' e it (i : Nat) old ∧ h'.IsTupleIter it l i ∧ Fr h₀ L h' m ∧ h'.Ns H2.objs.size m' ∧ News h₀ L h' ((s₂.heap.objs.size, lst ys) :: news)) ?_ (items.size + 1)
      ⟨h₁, _, 0, [], _, .none, rfl, Nat.zero_le _, rfl, rfl, (fun _ _ e => by simp at e), old _ _ he, (let ⟨o, y, r⟩ := hit; ⟨o, old _ _ y, r⟩), F.keeps old, hns₁, fun p hp => ?_⟩
    · intro k s' hInv
      refine Mine.Hi.hideG (fun G hG => ?_)
      obtain ⟨h', tk', i, ys, m', od, eS, hi, eK, hyl, hok, he', hit', F', hn', N'⟩ := hInv
      refine hG ?_
      clear hG
      subst eS eK
      have Nt : ∀ {g : Heap}, News h₀ L g ((s₂.heap.objs.size, lst ys) :: news) → g.IsTuple l items := fun G => ⟨_, (G _ (List.mem_cons_of_mem _ hl)).1, rfl, _, rfl⟩
      by_cases hlt : i < items.size
      · have hxi : items[i]? = some items[i] := Array.getElem?_eq_getElem hlt
        refine enumT_next he' hit' (Nt N') hxi hei fun h₂ ho₂ hit₂ ht₂ hk₂ => ?_
        have lT : e < h'.objs.size ∧ it < h'.objs.size := ⟨Heap.lt_size he', by obtain ⟨_, y, _⟩ := hit'; exact Heap.lt_size y⟩
        refine wpAny_letOwnedTupleGo_enum ho₂ fun h₃ he₃ hs₃ => ?_
        have k₃ : ∀ b o, b ≠ e → b ≠ it → h'.get? b = some o → h₃.get? b = some o := fun b o a c y => hs₃.extBut b o a (hk₂ b o a c y)
        have hT₃ : IsTup h₃ h'.objs.size #[.int i tk', items[i]] := ⟨_, hs₃.extBut _ _ (Nat.ne_of_gt lT.1) ht₂, rfl, _, rfl⟩
        refine assign_Tuple_tuple hh hT₃ rfl rfl fun h₅ he₅ => ?_
        have k₅ : ∀ b o, h₃.get? b = some o → h₅.get? b = some o := fun b o y => he₅ b o (Nat.ne_of_lt (Heap.lt_size y)) y
        have hne : H2.objs.size ≠ e ∧ H2.objs.size ≠ it := ⟨Ne.symm (below _ hel).1, Ne.symm (below _ hil).1⟩
        have hneD : s₂.heap.objs.size ≠ e ∧ s₂.heap.objs.size ≠ it := ⟨Ne.symm (below _ hel).2, Ne.symm (below _ hil).2⟩
        have hn₅ : h₅.Ns H2.objs.size m' := hn'.at' fun o y => k₅ _ _ (k₃ _ _ hne.1 hne.2 y)
        refine assignInOrder_cons (wpAny_assign_Name (wpAny_storeName_local (lookup_relabel_local hx) hn₅ (fun h₆ hn₆ hs₆ => ?_) (by simp [compEnvC, relabel, hkind])))
        refine assignInOrder_cons (wpAny_assign_Name (wpAny_storeName_local (lookup_relabel_local hx₂) hn₆ (fun h₇ hn₇ hs₇ => ?_) (by simp [compEnvC, relabel, hkind])))
        refine assignInOrder_nil ?_
        have k₇ : ∀ b o, b ≠ H2.objs.size → h₃.get? b = some o → h₇.get? b = some o := fun b o hb y => hs₇.extBut b o hb (hs₆.extBut b o hb (k₅ b o y))
        have k' : ∀ b o, b ≠ e → b ≠ it → b ≠ H2.objs.size → h'.get? b = some o → h₇.get? b = some o := fun b o a c d y => k₇ b o d (k₃ b o a c y)
        refine Mine.Hi.hideG (fun G hG => ?_)
        obtain ⟨oC, heC, hoC⟩ := ns_obj hn₇
        obtain ⟨oi, hoi, hoir⟩ := hit₂
        refine hG ?_
        clear hG
        have zi : h₇.get? it = some oi := k₇ _ _ (Ne.symm hne.2) (hs₃.extBut _ _ (Ne.symm hei) hoi)
        have ze : h₇.get? e = some _ := k₇ _ _ (Ne.symm hne.1) he₃
        have F₇ : Fr h₀ L h₇ m := ⟨F'.ns.at' fun o y => k' _ _ hLe hLi (Ne.symm hCL) y, fun b o y => k' b o (fun q => by rw [q, he₀] at y; cases y) (fun q => by rw [q, hi₀] at y; cases y) (fun q => by rw [q, hC₀] at y; cases y) (F'.keep b o y), F'.above⟩
        have N₇ : News h₀ L h₇ ((e, _) :: (it, oi) :: (H2.objs.size, oC) :: (s₂.heap.objs.size, lst ys) :: news) := fun p hp => by
          rcases List.mem_cons.mp hp with rfl | hp
          · exact ⟨ze, Ne.symm hLe, he₀⟩
          · rcases List.mem_cons.mp hp with rfl | hp
            · exact ⟨zi, Ne.symm hLi, hi₀⟩
            · rcases List.mem_cons.mp hp with rfl | hp
              · exact ⟨heC, hCL, hC₀⟩
              · have z := N' p hp
                rcases List.mem_cons.mp hp with rfl | hp
                · exact ⟨k' _ _ hneD.1 hneD.2 hDC z.1, z.2⟩
                · exact ⟨k' _ _ (off p hp).1 (off p hp).2 (below _ (lowN p hp)).1 z.1, z.2⟩
        refine wpAny_mono (R i hlt e _ it oi H2.objs.size oC s₂.heap.objs.size (lst ys) _ h₇ _ tk' _ _ hxi hoC (by simp [hxx]) (by simp) F₇ N₇) (fun y s₄ h₄ => ?_) fun _ _ q => q
        refine Mine.Hi.hideG (fun G hG => ?_)
        obtain ⟨h₄, tk₄, eS4, F₄, N₄, hy⟩ := h₄
        refine hG ?_
        clear hG
        subst eS4
        have zE := (N₄ _ (.head _)).1
        have zI := (N₄ _ (.tail _ (.head _))).1
        have zC := (N₄ _ (.tail _ (.tail _ (.head _)))).1
        have zD := (N₄ _ (.tail _ (.tail _ (.tail _ (.head _))))).1
        have N₄' : News h₀ L h₄ news := fun p hp => N₄ p (.tail _ (.tail _ (.tail _ (.tail _ hp))))
        refine append_at (hsz := by show ys.toArray.size ≤ sizeLine; rw [List.size_toArray, hyl]; exact Nat.le_trans hi hsz) zD fun h₅ hs₅ hD₅ => ?_
        refine ⟨items.size + 1 - (i + 1), by omega, h₅, tk₄, i + 1, ys ++ [y], _, _, rfl, hlt, rfl, by rw [List.length_append, List.length_singleton, hyl], hok.snoc (hyl ▸ hy), hs₅.extBut _ _ (Ne.symm hneD.1) zE, ⟨oi, hs₅.extBut _ _ (Ne.symm hneD.2) zI, hoir⟩, F₄.change hs₅ hDL hD₀,
          (hoC.ns zC).sameBut hs₅ (Ne.symm hDC), fun p hp => ?_⟩
        rcases List.mem_cons.mp hp with rfl | hp
        · exact ⟨hD₅.trans (congrArg some (lst_snoc ys y)), hDL, hD₀⟩
        · exact ⟨hs₅.extBut _ _ (below _ (lowN p hp)).2 (N₄' p hp).1, (N₄' p hp).2⟩
      · obtain rfl : i = items.size := Nat.le_antisymm hi (Nat.not_lt.mp hlt)
        refine enumT_stop hh he' hit' (Nt N') (Array.getElem?_eq_none (Nat.le_refl _)) fun h₂ hx₂' => ?_
        refine hRR _ _ h₂ tk' _ ys ⟨F'.ns.at' fun o y => hx₂' _ _ hLi y, fun b o y => hx₂' b o (fun q => by rw [q, hi₀] at y; cases y) (F'.keep b o y), F'.above⟩ (fun p hp => ⟨hx₂' _ _ ?_ (N' p hp).1, (N' p hp).2⟩) lowN (hn'.at' fun o y => hx₂' _ _ (Ne.symm (below _ hil).1) y) hC₀ hD₀ hCL hDL (Ne.symm hDC) (fun p hp => (below _ (lowN p hp)).1) hyl hok
        rcases List.mem_cons.mp hp with rfl | hp
        · exact Ne.symm (below _ hil).2
        · exact (off p hp).2
    · rcases List.mem_cons.mp hp with rfl | hp
      · exact ⟨hacc, hDL, hD₀⟩
      · exact ⟨old _ _ (N p hp).1, (N p hp).2⟩
  exact codeAny_compStart_list (loop _ rfl) (wpAny_pyIter_enum (old _ _ he) (loop _ rfl))
/-- what the iterable hands on -/
noncomputable def SrcEN (prog : Program) (w : World) (A : Around) (h₀ : Heap) (L : Addr) (m : Str → Option Value) (env : Env) (elt : PySem.Expr) (x x₂ : Str) (scope : Scope) (cl : List (Str × Addr)) (Fin : Shared → List (Addr × Obj) → Nat → (Nat → Value → Prop) → Prop) (xv : Value) (s₁ : Shared) : Prop :=
  ∃ e it l items nt news P, xv = .ref e ∧ A.handled = none ∧ items.size ≤ sizeLine ∧ IsEnum s₁.heap e it (0 : Nat) .none ∧ s₁.heap.IsTupleIter it l 0 ∧ e ≠ it ∧ Fr h₀ L s₁.heap m ∧ News h₀ L s₁.heap news ∧ (l, ({ cls := .type "tuple", data := .seq items nt } : Obj)) ∈ news ∧
    (L ≠ e ∧ h₀.get? e = none ∧ L ≠ it ∧ h₀.get? it = none) ∧ (∀ p ∈ news, p.1 ≠ e ∧ p.1 ≠ it) ∧ (∀ i, i < items.size → EnElt prog w A h₀ L m env elt x x₂ scope cl s₁ news items P i) ∧ Fin s₁ news items.size P
noncomputable def FinEN (h₀ : Heap) (L : Addr) (m : Str → Option Value) (y : Str) (Q : Flow → Shared → Prop) (s₁ : Shared) (news : List (Addr × Obj)) (n : Nat) (P : Nat → Value → Prop) : Prop :=
  ∀ D ys h tk, ys.length = n → EnOk P ys → Fr h₀ L h (fun z => if z = y then some (.ref D) else m z) → News h₀ L h ((D, lst ys) :: news) → (∀ p ∈ news, p.1 < D) → Q .next { s₁ with heap := h, toks := tk }
theorem srcEN_call {elt : PySem.Expr} {x x₂ : Str} {scope : Scope} {cl : List (Str × Addr)} {Fin : Shared → List (Addr × Obj) → Nat → (Nat → Value → Prop) → Prop} {l : Addr} {items : Array Value} {nt : Nat} (P : Nat → Value → Prop)
    (hh : A.handled = none) (hsz : items.size ≤ sizeLine) (F : Fr h₀ L s.heap m) (N : News h₀ L s.heap ((l, ({ cls := .type "tuple", data := .seq items nt } : Obj)) :: news))
    (h : ∀ g, (∀ i, i < items.size → EnElt prog w A h₀ L m env elt x x₂ scope cl { s with heap := g } ((l, ({ cls := .type "tuple", data := .seq items nt } : Obj)) :: news) items P i) ∧ Fin { s with heap := g } ((l, ({ cls := .type "tuple", data := .seq items nt } : Obj)) :: news) items.size P) :
    wpAny (model prog w) A (call (.type "enumerate") [.ref l]) (SrcEN prog w A h₀ L m env elt x x₂ scope cl Fin) E s := by
  refine enumT_call ⟨_, (N _ (.head _)).1, rfl, _, rfl⟩ fun h' he hit hk => ?_
  have fresh₀ : ∀ a, s.heap.objs.size ≤ a → h₀.get? a = none := fun a ha => by
    cases e : h₀.get? a with
    | none => rfl
    | some o' => exact absurd (Heap.lt_size (F.keep a o' e)) (Nat.not_lt.mpr ha)
  have hLlt : L < s.heap.objs.size := F.ns.lt
  exact ⟨_, _, l, items, nt, _, P, rfl, hh, hsz, he, hit, Nat.succ_ne_self _, F.keeps hk, N.grown hk, .head _, ⟨Nat.ne_of_lt (Nat.lt_succ_of_lt hLlt), fresh₀ _ (Nat.le_succ _), Nat.ne_of_lt hLlt, fresh₀ _ (Nat.le_refl _)⟩,
    fun p hp => ⟨Nat.ne_of_lt (Nat.lt_succ_of_lt (Heap.lt_size (N p hp).1)), Nat.ne_of_lt (Heap.lt_size (N p hp).1)⟩, (h h').1, (h h').2⟩
theorem Assign_EN {elt iter : PySem.Expr} {x x₂ y : Str} {px px₂ tp py : Pos} {tk} {scope : Scope} {cl : List (Str × Addr)} {pos spos : Pos} {Q : Flow → Shared → Prop} (F₀ : Fr h₀ L s.heap m) (hLe : env.locals = L)
    (hsw : swapsWith (.ListComp elt [⟨.Tuple [.Name x px, .Name x₂ px₂] tk tp, iter, [], 0⟩] scope pos) (some (.Name y py)) spos.line env = pure true)
    (hclos : closureFor scope env = pure cl) (hcell : ∀ z ∈ scope.names, z.2 ≠ .cell) (hkind : scope.kind = .function)
    (hnames : ∀ z ∈ scope.names, z.2 = .local → scope.names.lookup z.1 = some .local) (hx : scope.names.lookup x = some .local) (hx₂ : scope.names.lookup x₂ = some .local) (hxx : x ≠ x₂)
    (hy : env.kindOf y = some .local) (hp : (env.scope.kind == .class || (env.scope.kind == .module && env.locals != env.globals)) = false)
    (h : wpAny (model prog w) A (eval iter env) (SrcEN prog w A h₀ L m env elt x x₂ scope cl (FinEN h₀ L m y Q)) E s)
    (hs : ∀ x, foldedSetIterable iter env x = pure x := by intro _; rfl) :
    wpAny (model prog w) A (exec (.Assign [.Name y py] (.ListComp elt [⟨.Tuple [.Name x px, .Name x₂ px₂] tk tp, iter, [], 0⟩] scope pos) spos) env) Q E s := by
  subst hLe
  rw [exec_Assign_Name_used _ _ _ _ hsw]
  refine wpAny_bind (wpAny_standAt (wpAny_bind ?_))
  show wpAny _ A (do let _ ← comprehension (.ListComp elt [⟨.Tuple [.Name x px, .Name x₂ px₂] tk tp, iter, [], 0⟩] scope pos) scope env _ (newList []) false (eval iter env) (some (assign (.Name y py) env))) _ _ s
  refine wpAny_bind (wpAny_mono (wpAny_comprehension_free (use := some (assign (.Name y py) env)) (Q := fun _ s' => Q .next s') rfl hs hclos hkind hnames
    (wpAny_mono h (fun xv s₁ h₁ => ?_) fun _ _ e => e)) (fun _ s' hq => wpAny_pure (wpAny_pure hq)) fun _ _ e => e)
  refine Mine.Hi.hideG (fun G hG => ?_)
  obtain ⟨e, it, l, items, nt, news, P, eX1, hh, hsz, he, hit, hei, F, N, hl, ⟨a1, a2, a3, a4⟩, off, R, fin⟩ := h₁
  refine hG ?_
  clear hG
  subst eX1
  refine wpAny_pyIter_enum he ?_
  refine block_EN hh hsz hcell hkind hx hx₂ hxx he hit hei F N hl a1 a2 a3 a4 off R ?_
  intro D C h' tk' m' ys F' N' lo hn hC₀ hD₀ hCL hDL hCD offC hyl hok
  show wpAny _ A (assign (.Name y py) env (.ref D)) _ _ _
  refine wpAny_assign_Name (wpAny_storeName_local hy F'.ns (fun h₂ hn₂ hs₂ => ?_) hp)
  have hL₀ : h₀.get? env.locals = none := Heap.get?_none_of_le F'.above
  have F₂ : Fr h₀ env.locals h₂ (fun z => if z = y then some (.ref D) else m z) := ⟨hn₂, fun b o e => hs₂.extBut b o (fun q => by rw [q, hL₀] at e; cases e) (F'.keep b o e), F'.above⟩
  refine ⟨m', hn.sameBut hs₂ hCL, fun h'' hs'' => fin D ys h'' _ hyl hok (F₂.change hs'' hCL hC₀) (fun p hp => ?_) lo⟩
  have z : h₂.get? p.1 = some p.2 := hs₂.extBut _ _ (N' p hp).2.1 (N' p hp).1
  refine ⟨hs''.extBut _ _ ?_ z, (N' p hp).2⟩
  rcases List.mem_cons.mp hp with rfl | hp
  · exact Ne.symm hCD
  · exact offC p hp
end
end
end Mine.Fe2
end
theorem Mine.Off.t12 : True := by
  w_top off
  first | (walk1; done) | trivial
section
open PySem PySem.W PyProof.Rows PySem.Calls PySem.Spec



namespace Mine.Fs
section
variable {prog : Program} {w : World} {A : Around} {R : Result → Shared → Prop} {I : Addr} {fp wr : List Addr} {n : Nat} {P : Nat → Value → Prop} {St : Nat → Heap → Prop}
noncomputable def fLost (t x : UInt64) : UInt64 :=
  let s := Float64.add t x
  if (Float64.cmp (Float64.abs t) (Float64.abs x) == some .lt || Float64.isNaN t || Float64.isNaN x) = true then Float64.add (Float64.sub x s) t else Float64.add (Float64.sub t s) x
noncomputable def fSet (t c : UInt64) : UInt64 := if (Float64.isFinite c && !Float64.isZero c) = true then Float64.add t c else t
noncomputable def fSum (val : Nat → UInt64) : Nat → Nat → UInt64 → UInt64 → UInt64
  | 0, _, t, c => fSet t c
  | k + 1, i, t, c => fSum val k (i + 1) (Float64.add t (val i)) (Float64.add c (fLost t (val i)))
theorem u64_back (c : UInt64) : ((c.toNat : Int)).toNat.toUInt64 = c := by simp
theorem fs_loop (W : Walks prog w A.in1 I fp wr n P St) (val : Nat → UInt64) (hval : ∀ i v, P i v → ∃ t, v = .float (val i) t) (S : Addr) (hSf : S ∉ fp) :
    ∀ (k i : Nat) (s : Shared) (tA : Tok) (cc : Nat) (t c : UInt64), n - i = k → i ≤ n → St i s.heap → s.heap.get? S = some { cls := .type "list", dict := none, data := .seq #[.float t tA] cc, slots := #[] } →
    (∀ h' tk t', (∀ b o, b ∉ wr → b ≠ S → s.heap.get? b = some o → h'.get? b = some o) → R (.ok (.ret (.float (fSum val k i t c) t'))) { s with heap := h', toks := tk }) →
    codeAny (model prog w) A (.builtin "sum.loop" ⟨[.ref I, .ref S, rawInt 1, rawInt (c.toNat : Int)], []⟩) R s := by
  have hSw : S ∉ wr := fun h => hSf (W.sub _ h)
  intro k
  induction k with
  | zero =>
    intro i s tA cc t c hk hi hst hS hR
    have hin : i = n := by omega
    subst hin
    refine codeAny_builtin F.entry_sum_loop ?_
    rw [Around.under_plainId F.plain_sum_loop _]
    show wpAny _ A.in1 (seqItems? (.ref S) >>= _) _ _ s
    refine wpAny_bind (wpAny_seqItems hS rfl ?_)
    show wpAny _ A.in1 (tryCatch (pyNext (.ref I)) _ >>= _) _ _ s
    refine wpAny_bind (wpAny_tryCatch (W.done s _ _ hst fun h' tk hk' => ?_))
    show wpAny _ A.in1 (mkFloat _ >>= _) _ _ _
    refine wpAny_bind (wpAny_mkFloat ?_)
    have e : (if (Float64.isFinite ((c.toNat : Int)).toNat.toUInt64 && !Float64.isZero ((c.toNat : Int)).toNat.toUInt64) = true then Float64.add t ((c.toNat : Int)).toNat.toUInt64 else t) = fSet t c := by rw [u64_back]; rfl
    have this := hR h' (tk + 1) tk fun b o hbw _ e => hk' b o hbw e
    refine wpAny_pure ?_
    show R (.ok (.ret (.float (if (Float64.isFinite ((c.toNat : Int)).toNat.toUInt64 && !Float64.isZero ((c.toNat : Int)).toNat.toUInt64) = true then Float64.add t ((c.toNat : Int)).toNat.toUInt64 else t) tk))) { s with heap := h', toks := tk + 1 }
    rw [e]
    exact this
  | succ k ih =>
    intro i s tA cc t c hk hi hst hS hR
    have hlt : i < n := by omega
    refine codeAny_builtin F.entry_sum_loop ?_
    rw [Around.under_plainId F.plain_sum_loop _]
    show wpAny _ A.in1 (seqItems? (.ref S) >>= _) _ _ s
    refine wpAny_bind (wpAny_seqItems hS rfl ?_)
    show wpAny _ A.in1 (tryCatch (pyNext (.ref I)) _ >>= _) _ _ s
    refine wpAny_bind (wpAny_tryCatch (W.item i s _ _ hlt hst fun v h' tk hP hst' hk' => ?_))
    obtain ⟨tv, rfl⟩ := hval i v hP
    have hS' := hk' S _ hSw hS
    show wpAny _ A.in1 (rule "sum.compensated" >>= _) _ _ _
    refine wpAny_bind (wpAny_rule ?_)
    show wpAny _ A.in1 (mkFloat (Float64.add t (val i)) >>= _) _ _ _
    refine wpAny_bind (wpAny_mkFloat ?_)
    show wpAny _ A.in1 (updateSeq S (fun _ => #[.float (Float64.add t (val i)) tk]) >>= _) _ _ _
    refine wpAny_bind ?_
    have e2 : (Float64.add ((c.toNat : Int)).toNat.toUInt64 (fLost t (val i))) = Float64.add c (fLost t (val i)) := by rw [u64_back]
    have step := ih (i + 1) { s with heap := h'.update S (Obj.mapSeq fun _ => #[Value.float (Float64.add t (val i)) tk]), toks := tk + 1 } tk cc (Float64.add t (val i)) (Float64.add c (fLost t (val i))) (by omega) hlt (W.frame _ _ _ hst' fun b hb o e => ?_) (Heap.get?_update_self _ hS' rfl) fun h'' tk'' t'' hk'' => ?_
    · rw [← e2] at step
      exact wpAny_updateSeq hS' rfl (wpAny_pure ⟨plainId_quiet F.plain_sum_loop _, step⟩)
    · exact (Heap.get?_update_other _ _ (fun h : S = b => hSf (by rw [h]; exact hb))).trans e
    · exact hR h'' tk'' t'' fun b o hbw hbS e => hk'' b o hbw hbS ((Heap.get?_update_other _ _ (Ne.symm hbS)).trans (hk' b o hbw e))
theorem fs_first (W : Walks prog w A.in1 I fp wr n P St) (val : Nat → UInt64) (hval : ∀ i v, P i v → ∃ t, v = .float (val i) t) (S : Addr) (hSf : S ∉ fp) (hn : 0 < n) (s : Shared) (tA : Tok) (cc : Nat) (hst : St 0 s.heap) (hS : s.heap.get? S = some { cls := .type "list", dict := none, data := .seq #[.int 0 tA] cc, slots := #[] })
    (hR : ∀ h' tk t', (∀ b o, b ∉ wr → b ≠ S → s.heap.get? b = some o → h'.get? b = some o) → R (.ok (.ret (.float (fSum val (n - 1) 1 (Float64.add (Float64.ofInt 0) (val 0)) 0) t'))) { s with heap := h', toks := tk }) :
    codeAny (model prog w) A (.builtin "sum.loop" ⟨[.ref I, .ref S, rawInt 0, rawInt 0], []⟩) R s := by
  have hSw : S ∉ wr := fun h => hSf (W.sub _ h)
  refine codeAny_builtin F.entry_sum_loop ?_
  rw [Around.under_plainId F.plain_sum_loop _]
  show wpAny _ A.in1 (seqItems? (.ref S) >>= _) _ _ s
  refine wpAny_bind (wpAny_seqItems hS rfl ?_)
  show wpAny _ A.in1 (tryCatch (pyNext (.ref I)) _ >>= _) _ _ s
  refine wpAny_bind (wpAny_tryCatch (W.item 0 s _ _ hn hst fun v h' tk hP hst' hk' => ?_))
  obtain ⟨tv, rfl⟩ := hval 0 v hP
  have hS' := hk' S _ hSw hS
  show wpAny _ A.in1 (rule "sum.leaves-ints" >>= _) _ _ _
  refine wpAny_bind (wpAny_rule ?_)
  show wpAny _ A.in1 ((holding [Value.float (val 0) tv] (binaryOp .Add (.int 0 tA) (.float (val 0) tv))).attempt >>= _) _ _ _
  refine wpAny_bind (wpAny_attempt (wpAny_holding (add_if_fits (by decide) ?_)))
  show wpAny _ A.in1 (updateSeq S (fun _ => #[.float (Float64.add (Float64.ofInt 0) (val 0)) tk]) >>= _) _ _ _
  refine wpAny_bind ?_
  refine wpAny_updateSeq hS' rfl ?_
  have hS2 := Heap.get?_update_self (Obj.mapSeq fun _ => #[Value.float (Float64.add (Float64.ofInt 0) (val 0)) tk]) hS' rfl
  refine wpAny_bind (wpAny_letGo ?_)
  refine wpAny_bind ?_
  have step := fs_loop (R := R) W val hval S hSf (n - 1) 1 { s with heap := (h'.update S (Obj.mapSeq fun _ => #[Value.float (Float64.add (Float64.ofInt 0) (val 0)) tk])).update S (Obj.mapSeq fun _ => #[Value.float (Float64.add (Float64.ofInt 0) (val 0)) tk]), toks := tk + 1 } tk cc (Float64.add (Float64.ofInt 0) (val 0)) 0 rfl hn
    (W.frame _ _ _ hst' fun b hb o e => ?_) (Heap.get?_update_self _ hS2 rfl) fun h'' tk'' t'' hk'' => ?_
  · exact wpAny_updateSeq hS2 rfl (wpAny_pure ⟨plainId_quiet F.plain_sum_loop _, step⟩)
  · exact (Heap.get?_update_other _ _ (fun h : S = b => hSf (by rw [h]; exact hb))).trans ((Heap.get?_update_other _ _ (fun h : S = b => hSf (by rw [h]; exact hb))).trans e)
  · exact hR h'' tk'' t'' fun b o hbw hbS e => hk'' b o hbw hbS ((Heap.get?_update_other _ _ (Ne.symm hbS)).trans ((Heap.get?_update_other _ _ (Ne.symm hbS)).trans (hk' b o hbw e)))
section
variable {prog : Program} {w : World} {A : Around} {E : Value → Shared → Prop} {s : Shared}
/-- sum of a list of floats: the first is added to the int 0, the rest by the compensated loop -/
noncomputable def fTot (val : Nat → UInt64) (n : Nat) : UInt64 := fSum val n 1 (Float64.add (Float64.ofInt 0) (val 0)) 0
theorem fs_call {l : Addr} {f0 f1 f2 : UInt64} {u0 u1 u2 : Tok} {Q : Value → Shared → Prop} {h₀ : Heap} {L : Addr} {m : Str → Option Value} {news : List (Addr × Obj)} {k : Nat} (hh : A.in1.handled = none)
    (F₀ : Fr h₀ L s.heap m) (N : News h₀ L s.heap news) (hl : (l, listOf #[.float f0 u0, .float f1 u1, .float f2 u2] k) ∈ news)
    (h : ∀ h' tk t, Fr h₀ L h' m → News h₀ L h' news → Q (.float (fTot (fun i => [f0, f1, f2].getD i 0) 2) t) { s with heap := h', toks := tk }) :
    wpAny (model prog w) A (call (.builtin "sum") [.ref l]) Q E s := by
  have hL : s.heap.IsList l #[.float f0 u0, .float f1 u1, .float f2 u2] := News.isList N hl
  have hlt : l < s.heap.objs.size := Heap.lt_size (N _ hl).1
  refine call_function_tree F.kind_sum F.plain_sum F.entry_sum (F.args_sum1 _) ?_
  unfold Builtin.«sum»
  simp only [List.length_cons, List.length_nil]
  rw [if_neg (by decide)]
  refine wpAny_bind (wpAny_of_eq (show Builtin.Builtins.bindParams "sum" ["start"] 0 { } = pure [none] from rfl) ?_)
  refine wpAny_bind (wpAny_pyIter_list hL ?_)
  refine wpAny_bind (wpAny_mkInt ?_)
  refine wpAny_bind (wpAny_pure ?_)
  simp only [List.forIn_cons, List.forIn_nil]
  refine wpAny_bind (wpAny_bind (wpAny_bind (wpAny_isInstance (T := "int") (b := false) (typeIs_int _ _ _) PySem.sub_int_str ?_)))
  simp only [Bool.false_eq_true, if_false]
  refine wpAny_pure (wpAny_bind (wpAny_bind (wpAny_isInstance (T := "int") (b := false) (typeIs_int _ _ _) PySem.sub_int_bytes ?_)))
  simp only [Bool.false_eq_true, if_false]
  refine wpAny_pure (wpAny_bind (wpAny_bind (wpAny_isInstance (T := "int") (b := false) (typeIs_int _ _ _) PySem.sub_int_bytearray ?_)))
  simp only [Bool.false_eq_true, if_false]
  refine wpAny_pure (wpAny_pure ?_)
  refine wpAny_bind (wpAny_newObj_type ?_)
  have W := Walks.list (prog := prog) (w := w) hh s.heap.objs.size l (Nat.ne_of_lt hlt) #[.float f0 u0, .float f1 u1, .float f2 u2]
  have hg1 : (s.heap.push { cls := .type "list_iterator", data := .fields #[.ref l, .int 0 0] }).IsListIter s.heap.objs.size l 0 := ⟨_, Heap.get?_push_size _ rfl, rfl, rfl⟩
  have hg2 : (s.heap.push { cls := .type "list_iterator", data := .fields #[.ref l, .int 0 0] }).IsList l #[.float f0 u0, .float f1 u1, .float f2 u2] := hL.push _
  have hg3 : ∀ b o, s.heap.get? b = some o → (s.heap.push { cls := .type "list_iterator", data := .fields #[.ref l, .int 0 0] }).get? b = some o := fun b o e => Heap.get?_push_of_some _ e
  have hz : (s.heap.push { cls := .type "list_iterator", data := .fields #[.ref l, .int 0 0] }).objs.size = s.heap.objs.size + 1 := Heap.size_push ..
  generalize (Heap.push _ _ : Heap) = g at hg1 hg2 hg3 hz ⊢
  have hI₀ : h₀.get? s.heap.objs.size = none := next_is_new F₀
  have hS₀ : h₀.get? g.objs.size = none := by
    cases e : h₀.get? g.objs.size with
    | none => rfl
    | some o' => exact absurd (Heap.lt_size (F₀.keep _ o' e)) (by rw [hz]; exact Nat.not_lt.mpr (Nat.le_succ _))
  have hLlt : L < s.heap.objs.size := F₀.ns.lt
  refine wpAny_pure ⟨plainId_quiet F.plain_sum_loop _, fs_first W (fun i => [f0, f1, f2].getD i 0) (fun i v e => ?_) g.objs.size (fun hm => ?_) (Nat.succ_pos 2) _ s.toks 0 ⟨?_, hg2.push _⟩ (Heap.get?_push_size _ rfl) fun h' tk t' hk => ?_⟩
  · match i, e with
    | 0, e => exact ⟨u0, (Option.some.inj e).symm⟩
    | 1, e => exact ⟨u1, (Option.some.inj e).symm⟩
    | 2, e => exact ⟨u2, (Option.some.inj e).symm⟩
    | i + 3, e => simp at e
  · rw [hz] at hm
    rcases List.mem_cons.mp hm with q | hm
    · exact absurd q (Nat.succ_ne_self _)
    · have q := List.mem_singleton.mp hm
      rw [← q] at hlt
      exact absurd hlt (Nat.not_lt.mpr (Nat.le_succ _))
  · obtain ⟨o, ho, r⟩ := hg1
    exact ⟨o, Heap.get?_push_of_some _ ho, r⟩
  · have k2 : ∀ b o, b ≠ s.heap.objs.size → b ≠ g.objs.size → s.heap.get? b = some o → h'.get? b = some o := fun b o a c e => hk b o (fun q => a (List.mem_singleton.mp q)) c (Heap.get?_push_of_some _ (hg3 b o e))
    have lo : ∀ b, b < s.heap.objs.size → b ≠ s.heap.objs.size ∧ b ≠ g.objs.size := fun b hb => ⟨Nat.ne_of_lt hb, by rw [hz]; exact Nat.ne_of_lt (Nat.lt_succ_of_lt hb)⟩
    refine h h' tk t' ⟨F₀.ns.at' fun o e => k2 _ _ (lo _ hLlt).1 (lo _ hLlt).2 e, fun b o e => k2 b o (fun q => by rw [q, hI₀] at e; cases e) (fun q => by rw [q, hS₀] at e; cases e) (F₀.keep b o e), F₀.above⟩ fun p hp => ?_
    have z := N p hp
    exact ⟨k2 _ _ (lo _ (Heap.lt_size z.1)).1 (lo _ (Heap.lt_size z.1)).2 z.1, z.2⟩
end
end
end Mine.Fs
end
theorem Mine.Off.t13 : True := by
  w_top off
  first | (walk1; done) | trivial
section
open PySem PySem.W PyProof.Rows PySem.Calls PySem.Spec PySem.SeqAt



namespace Mine.Fq
section
variable {w : World} {M : Model} {A : Around} {E : Value → Shared → Prop} {s : Shared} {h₀ : Heap}
theorem none_booked' (X : (hd.heap_39 w.params).In h₀) {h : Heap} (k : ∀ b o, h₀.get? b = some o → h.get? b = some o) : NoneBooked h := by
  have e : (hd.heap_39 w.params).lookup 2 = some { cls := .none, data := .dict #[] } := by kernel_rfl
  have g := k _ _ (X _ _ e)
  exact ⟨fun _ => none, ⟨_, #[], _, g, rfl, (by intro i; simp), fun name => rfl⟩, rfl⟩
theorem isSame_float {x y : UInt64} {u v : Tok} {Q : Bool → Shared → Prop} (h0 : (u == 0 || v == 0) = false) (hb : NoneBooked s.heap) (hq : ∀ b, Q b s) : wpAny M A (isSame (.float x u) (.float y v)) Q E s := by
  show wpAny M A (isSame.created (x == y && !Float64.isNaN x) u v) Q E s
  unfold isSame.created
  refine wpAny_ite ?_
  split
  · rename_i h; rw [h0] at h; exact absurd h Bool.false_ne_true
  refine wpAny_ite ?_
  split
  · exact wpAny_pure (hq _)
  refine wpAny_ite ?_
  split
  · exact wpAny_pure (hq _)
  refine wpAny_bind (wpAny_sharingNotTold_none hb ?_)
  first | rw [if_neg Bool.false_ne_true] | simp only [Bool.false_eq_true, if_false]
  refine wpAny_bind (wpAny_sharingNotTold_none hb ?_)
  first | rw [if_neg Bool.false_ne_true] | simp only [Bool.false_eq_true, if_false]
  exact wpAny_bind (wpAny_rule (wpAny_bind (wpAny_askSetting (wpAny_pure (hq _)))))
theorem eqf {x : UInt64} {u v : Tok} (hb : NoneBooked s.heap) (h0 : (u == 0 || v == 0) = false) (hx : (Float64.cmp x x == some .eq) = true) : EqAt A s (.float x u) (.float x v) true := fun prog w E Q h => by
  unfold eqBool
  show wpAny _ _ (if (Value.float x u == Value.float x v) = true then _ else _) Q E s
  refine wpAny_ite ?_
  split
  · exact wpAny_bind (wpAny_rule (wpAny_pure h))
  · refine wpAny_bind (isSame_float h0 hb fun b => ?_)
    cases b with
    | true => exact wpAny_pure h
    | false =>
      refine wpAny_bind (show wpAny _ _ (richCompare .Eq (.float x u) (.float x v)) _ _ _ from AutoFloatOps.eq_0 ?_)
      rw [hx]
      exact wpAny_truthy_bool h
theorem ne_f3 {prog : Program} {L : Addr} {news : List (Addr × Obj)} {Q : Value → Shared → Prop} {a b : Addr} {x y z : UInt64} {t t' t'' u u' u'' : Tok} {n n' : Nat} (N : News h₀ L s.heap news) (ma : (a, ({ cls := .type "tuple", data := .seq #[.float x t, .float y t', .float z t''] n } : Obj)) ∈ news) (mb : (b, ({ cls := .type "tuple", data := .seq #[.float x u, .float y u', .float z u''] n' } : Obj)) ∈ news)
    (hu : A.units < cLine) (hb : NoneBooked s.heap) (t1 : t ≠ 0) (t2 : t' ≠ 0) (t3 : t'' ≠ 0) (u1 : u ≠ 0) (u2 : u' ≠ 0) (u3 : u'' ≠ 0) (hx : (Float64.cmp x x == some .eq) = true) (hy : (Float64.cmp y y == some .eq) = true) (hz : (Float64.cmp z z == some .eq) = true)
    (h : Q (.bool false) s) : wpAny (model prog w) A (compareOp .NotEq (.ref a) (.ref b)) Q E s := by
  have ha : s.heap.IsTuple a #[.float x t, .float y t', .float z t''] := ⟨_, (N _ ma).1, rfl, _, rfl⟩
  have hb' : s.heap.IsTuple b #[.float x u, .float y u', .float z u''] := ⟨_, (N _ mb).1, rfl, _, rfl⟩
  have nz : ∀ {p q : Tok}, p ≠ 0 → q ≠ 0 → (p == 0 || q == 0) = false := fun hp hq => by simp [hp, hq]
  have R := RcNeAt.tuples (A := A) (s := s) (e := fun _ => true) ha hb' hu (fun j h1 h2 => by
    have h1' : j < 3 := h1
    match j, h1', h1, h2 with
    | 0, _, h1, h2 => exact eqf hb (nz t1 u1) hx
    | 1, _, h1, h2 => exact eqf hb (nz t2 u2) hy
    | 2, _, h1, h2 => exact eqf hb (nz t3 u3) hz)
  exact R prog w E Q h
end
end Mine.Fq
end
theorem Mine.Off.t14 : True := by
  w_top off
  first | (walk1; done) | trivial
section
open Mine.Hi
open PySem PySem.W PyProof.Rows PySem.Calls PySem.Spec PyProof.Rows.LCg



namespace Mine.Ct
section
variable {w : World} {p : Program} {loose : List Str} {mean : ExcName → Option Value} {mg mb : Str → Option Value}
  {dp un : Nat} {gd : Option (List Code)} {cn : Str} {cs : Scope} {a : Addr} {ccd : Value} {cl : List (Str × Addr)} {outer : List Env} {A₀ : Around} {base h₀ : Heap} {L : Addr} {m : Str → Option Value} {news : List (Addr × Obj)} {s : Shared}
    {Q E : Value → Shared → Prop}

section
variable {prog : Program} {A : Around} {env : Env}
noncomputable abbrev tupO (its : Array Value) (nt : Nat) : Obj := { cls := .type "tuple", data := .seq its nt }
/-- a comprehension over a made tuple -/
noncomputable def SrcTU (prog : Program) (w : World) (A : Around) (h₀ : Heap) (L : Addr) (m : Str → Option Value) (env : Env) (elt : PySem.Expr) (x : Str) (scope : Scope) (cl : List (Str × Addr)) (Fin : Shared → List Value → List (Addr × Obj) → Prop) (xv : Value) (s₁ : Shared) : Prop :=
  ∃ ax its nt news, xv = .ref ax ∧ A.handled = none ∧ Fr h₀ L s₁.heap m ∧ News h₀ L s₁.heap news ∧ (ax, tupO its nt) ∈ news ∧ its.size ≤ sizeLine ∧
    ∀ g, CompRest prog w A h₀ L m env elt x scope cl { s₁ with heap := g } (fun nw => (ax, tupO its nt) ∈ nw) (fun i v => its[i]? = some v) (Fin { s₁ with heap := g }) its.size 0 [] news
theorem SrcTU.mk' {elt : PySem.Expr} {x : Str} {scope : Scope} {cl : List (Str × Addr)} {Fin : Shared → List Value → List (Addr × Obj) → Prop} {ax : Addr} {its : Array Value} {nt : Nat} (hh : A.handled = none) (F : Fr h₀ L s.heap m) (N : News h₀ L s.heap news) (hm : (ax, tupO its nt) ∈ news) (hsz : its.size ≤ sizeLine)
    (h : ∀ g, CompRest prog w A h₀ L m env elt x scope cl { s with heap := g } (fun nw => (ax, tupO its nt) ∈ nw) (fun i v => its[i]? = some v) (Fin { s with heap := g }) its.size 0 [] news) :
    SrcTU prog w A h₀ L m env elt x scope cl Fin (.ref ax) s := ⟨ax, its, nt, news, rfl, hh, F, N, hm, hsz, h⟩
theorem Assign_TU {elt iter : PySem.Expr} {x y : Str} {px py : Pos} {scope : Scope} {cl : List (Str × Addr)} {pos spos : Pos} {Q : Flow → Shared → Prop} (F₀ : Fr h₀ L s.heap m) (hLe : env.locals = L)
    (hsw : swapsWith (.ListComp elt [⟨.Name x px, iter, [], 0⟩] scope pos) (some (.Name y py)) spos.line env = pure true)
    (hclos : closureFor scope env = pure cl) (hcell : ∀ z ∈ scope.names, z.2 ≠ .cell) (hkind : scope.kind = .function)
    (hnames : ∀ z ∈ scope.names, z.2 = .local → scope.names.lookup z.1 = some .local) (hx : scope.names.lookup x = some .local)
    (hy : env.kindOf y = some .local) (hp : (env.scope.kind == .class || (env.scope.kind == .module && env.locals != env.globals)) = false)
    (h : wpAny (model prog w) A (eval iter env) (SrcTU prog w A h₀ L m env elt x scope cl (fun s₂ => FinA h₀ L m s₂ y Q)) E s)
    (hs : ∀ x, foldedSetIterable iter env x = pure x := by intro _; rfl) :
    wpAny (model prog w) A (exec (.Assign [.Name y py] (.ListComp elt [⟨.Name x px, iter, [], 0⟩] scope pos) spos) env) Q E s := by
  subst hLe
  rw [exec_Assign_Name_used _ _ _ _ hsw]
  refine wpAny_bind (wpAny_standAt (wpAny_bind ?_))
  show wpAny _ A (do let _ ← comprehension (.ListComp elt [⟨.Name x px, iter, [], 0⟩] scope pos) scope env _ (newList []) false (eval iter env) (some (assign (.Name y py) env))) _ _ s
  refine wpAny_bind (wpAny_mono (wpAny_comprehension_free (use := some (assign (.Name y py) env)) (Q := fun _ s' => Q .next s') rfl hs hclos hkind hnames
    (wpAny_mono h (fun xv s₁ h₁ => ?_) fun _ _ e => e)) (fun _ s' hq => wpAny_pure (wpAny_pure hq)) fun _ _ e => e)
  refine Mine.Hi.hideG (fun G hG => ?_)
  obtain ⟨ax, its, nt, news, eX1, hh, F, N, hm, hsz, R⟩ := h₁
  refine hG ?_
  clear hG
  subst eX1
  have hl : s₁.heap.IsTuple ax its := ⟨_, (N _ hm).1, rfl, _, rfl⟩
  have hlt : ax < s₁.heap.objs.size := Heap.lt_size (N _ hm).1
  refine wpAny_pyIter_tuple hl ?_
  have up : ∀ b o, s₁.heap.get? b = some o → (s₁.heap.push { cls := .type "tuple_iterator", data := .fields #[.ref ax, .int 0 0] }).get? b = some o := fun b o e => Heap.get?_push_of_some _ e
  refine block_U (Walks.tuple hh s₁.heap.objs.size ax (Nat.ne_of_lt hlt) its) hsz (fun i h st => by obtain ⟨o, e, _⟩ := st.1; exact ⟨o, e⟩)
    (fun i h h' o nw st e e' k N' S => ⟨by obtain ⟨o', q, r⟩ := st.1; rw [e] at q; cases q; exact ⟨o, e', r⟩, ⟨_, (N' _ S).1, rfl, _, rfl⟩⟩) hcell hkind hx ⟨⟨_, Heap.get?_push_size _ rfl, rfl, rfl⟩, hl.push _⟩ (fun b hb => ?_)
    (F.keeps up) (N.grown up) (Nat.ne_of_lt F.ns.lt) (next_is_new F) (fun p hp => Nat.ne_of_lt (Heap.lt_size (N p hp).1)) hm (R _) ?_
  · show b < (s₁.heap.push _).objs.size
    rw [Heap.size_push]
    rcases List.mem_cons.mp hb with rfl | hb
    · exact Nat.lt_succ_self _
    · rw [List.mem_singleton.mp hb]; exact Nat.lt_succ_of_lt hlt
  · intro D C h' tk m' ys news' F' N' o1 hn hC₀ hD₀ hCL hDL hCD offC fin
    show wpAny _ A (assign (.Name y py) env (.ref D)) _ _ _
    refine wpAny_assign_Name (wpAny_storeName_local hy F'.ns (fun h₂ hn₂ hs₂ => ?_) hp)
    have hL₀ : h₀.get? env.locals = none := Heap.get?_none_of_le F'.above
    have F₂ : Fr h₀ env.locals h₂ (fun z => if z = y then some (.ref D) else m z) := ⟨hn₂, fun b o e => hs₂.extBut b o (fun q => by rw [q, hL₀] at e; cases e) (F'.keep b o e), F'.above⟩
    refine ⟨m', hn.sameBut hs₂ hCL, fun h'' hs'' => fin D h'' _ (F₂.change hs'' hCL hC₀) (fun p hp => ?_) o1⟩
    have z : h₂.get? p.1 = some p.2 := hs₂.extBut _ _ (N' p hp).2.1 (N' p hp).1
    refine ⟨hs''.extBut _ _ ?_ z, (N' p hp).2⟩
    rcases List.mem_cons.mp hp with rfl | hp
    · exact Ne.symm hCD
    · exact offC p hp
end
end
end Mine.Ct
end
theorem Mine.Off.t15 : True := by
  w_top off
  first | (walk1; done) | trivial
section
open PySem PySem.W PyProof.Rows PySem.Calls PyProof.V PySem.Spec



namespace Mine.L0
noncomputable def lawDef : Stmt := match PySem.Challenge.pw_rw0037_01.main.body.getLast? with
  | some st => st
  | none => .Pass ⟨0, 0, 0, 0⟩
noncomputable def lawBody : List Stmt := match lawDef with
  | .FunctionDef _ _ b _ _ _ _ _ _ _ => b
  | _ => []
noncomputable def lawSc : Scope := match lawDef with
  | .FunctionDef _ _ _ _ _ _ sc _ _ _ => sc
  | _ => { kind := .module, names := [], isGenerator := false, isCoroutine := false, more := [] }
noncomputable def lawSt (k : Nat) : Stmt := match lawBody.drop k with
  | st :: _ => st
  | [] => .Pass ⟨0, 0, 0, 0⟩
noncomputable abbrev lawA (L fa : Addr) (cd : Value) : Around := callerA.deeper (envOfC (Str.ofString "law") lawSc L fa cd)
end Mine.L0
end
theorem Mine.Off.t16 : True := by
  w_top off
  first | (walk1; done) | trivial
section
open PySem PySem.W PyProof.Rows PySem.Calls PySem.Spec



namespace Mine.Nst
section
variable {w : World} {p : Program} {loose : List Str} {mean : ExcName → Option Value} {mg mb : Str → Option Value}
  {dp un : Nat} {gd : Option (List Code)} {cn : Str} {cs : Scope} {a : Addr} {ccd : Value} {cl : List (Str × Addr)} {outer : List Env} {A₀ : Around} {base h₀ : Heap} {L : Addr} {m : Str → Option Value} {news : List (Addr × Obj)} {s : Shared}
    {Q E : Value → Shared → Prop}

theorem ne_low {b a : Nat} {news : List (Addr × Obj)} (h : ∀ p ∈ news, p.1 < b) (k : b ≤ a) : ∀ p ∈ news, p.1 ≠ a := fun p hp => Nat.ne_of_lt (Nat.lt_of_lt_of_le (h p hp) k)
theorem rsh_lit {prog : Program} {A : Around} {x y r : Int} {t u : Tok} {Q : Value → Shared → Prop} (e : x.fdiv (2 ^ y.toNat) = r) (hn : 0 ≤ y) (h : Q (.int r s.toks) { s with toks := s.toks + 1 }) : wpAny (model prog w) A (binaryOp .RShift (.int x t) (.int y u)) Q E s := by
  subst e; exact rshift_int hn h
theorem pow_le32 {k : Int} (h : k ≤ 5) : (0 : Int) < 2 ^ k.toNat ∧ (2 : Int) ^ k.toNat ≤ 32 := by
  have : k.toNat = 0 ∨ k.toNat = 1 ∨ k.toNat = 2 ∨ k.toNat = 3 ∨ k.toNat = 4 ∨ k.toNat = 5 := by omega
  rcases this with e | e | e | e | e | e <;> rw [e] <;> decide
theorem sh_abs {a b k : Int} (h1 : 0 ≤ a) (h2 : a ≤ 2) (h3 : 0 ≤ b) (h4 : b ≤ 2) (h : k ≤ 5) : (a * 2 ^ k.toNat + b).natAbs < 2 ^ 64 := by
  have hp := pow_le32 h
  have e : a = 0 ∨ a = 1 ∨ a = 2 := by omega
  generalize (2 : Int) ^ k.toNat = z at *
  rcases e with rfl | rfl | rfl <;> omega
theorem news_sub {h₀ h : Heap} {L : Addr} {a b : List (Addr × Obj)} (N : News h₀ L h a) (s : ∀ p ∈ b, p ∈ a) : News h₀ L h b := fun p hp => N p (s p hp)
structure Box (p : Prop) : Prop where
  out : p

noncomputable def TabOk (line col : Int) (q : Str) (ps : Array Value) (news : List (Addr × Obj)) : Prop :=
  ps = #[] ∨ ∃ c' oc vs t, ps = #[rawInt line, rawInt col, .ref c'] ∧ (c', oc) ∈ news ∧ oc.data = .fields vs ∧ vs[1]? = some (.str q t)
section
variable {M : Model} {A : Around} {E : Value → Shared → Prop} {s : Shared} {h₀ : Heap} {L a c P : Addr} {m mg mb : Str → Option Value} {cn : Str} {cs : Scope} {ccd : Value} {cl : List (Str × Addr)} {news n0 : List (Addr × Obj)} {g : Obj → List (Addr × Obj)}
  {p : Program} {loose : List Str} {mean : ExcName → Option Value} {name qual : Str} {params : Arguments} {body : List Stmt} {scope : Scope} {ps : Array Value} {pos : Pos} {firstLine : Nat} {clos : List (Str × Addr)}
theorem nest_or {Q : Value → Shared → Prop} (F : Fr h₀ L s.heap m) (N : News h₀ L s.heap news) (T : Top p loose mean mg mb h₀) (C : CodeHd h₀ c P) (hcd : ccd = .ref c) (U : UpdF P (tabObj ps) news g) (hps : TabOk pos.line pos.col qual ps n0) (hsub : ∀ p ∈ n0, p ∈ news)
    (hcl : closureFor scope (envX cn cs L a ccd cl) = pure clos)
    (h : ∀ f c' oc vs t ctv doc h' tk, Fr h₀ L h' m →
      News h₀ L h' ((f, fnMade name qual params body scope clos doc ((mg "__name__").getD .none) c' ctv) :: (c', oc) :: g (tabObj #[rawInt pos.line, rawInt pos.col, .ref c'])) →
      oc.data = .fields vs → vs[1]? = some (.str qual t) → (∀ q ∈ news, q.1 < f) → c' < f → ((ps = #[] ∧ ∀ q ∈ news, q.1 < c') ∨ (ps = #[rawInt pos.line, rawInt pos.col, .ref c'] ∧ (c', oc) ∈ n0)) → Q (.ref f) { s with heap := h', toks := tk }) :
    wpAny M A (makeFunction name qual params (.stmts body) scope (envX cn cs L a ccd cl) [] [] [] pos firstLine) Q E s := by
  rcases hps with e | ⟨c', oc, vs, t, e, hm, h1, h2⟩
  · subst e
    refine nest_K F N T C hcd U True.intro rfl hcl fun f c' oc vs t ctv doc h' tk F' N' d1 d2 l1 l2 => h f c' oc vs t ctv doc h' tk F' N' d1 d2 (fun q hq => Nat.lt_trans (l1 q hq) l2) l2 (.inl ⟨rfl, l1⟩)
  · obtain ⟨own, rest, rfl, hgr, g1, g2⟩ := U.split
    subst e
    refine nestHit_K F N T C hcd (List.mem_append_right _ (.head _)) (by simp [TriplesOk, rawInt]) (c' := c') (by simp [codeAmong, rawInt]) hcl fun f ctv doc h' tk F' N' l1 => h f c' oc vs t ctv doc h' tk F' ?_ h1 h2 l1 (l1 _ (hsub _ hm)) (.inr ⟨rfl, hm⟩)
    rw [hgr]
    intro q hq
    rcases List.mem_cons.mp hq with rfl | hq
    · exact N' _ (.head _)
    · rcases List.mem_cons.mp hq with rfl | hq
      · exact N' _ (.tail _ (hsub _ hm))
      · exact N' _ (.tail _ hq)
end
theorem kne_or {a b : Nat} (h : a ≠ b) : a ≠ b := h
theorem ints_cast {vs : List Value} {ns ms : List Int} (h : IntsAre vs ns) (e : ns = ms) : IntsAre vs ms := e ▸ h
theorem beq_t {x y : Int} (h : x = y) : (x == y) = true := by rw [h]; simp
theorem beq_f {x y : Int} (h : x ≠ y) : ¬ ((x == y) = true) := by simpa using h
theorem in_with {h₀ h : Heap} {L f : Addr} {keep : List (Addr × Obj)} {o : Obj} {P : List (Addr × Obj) → Addr → Prop} {G : Prop} (_N : News h₀ L h ((f, o) :: keep)) (H : P ((f, o) :: keep) f) (k : P ((f, o) :: keep) f → G) : G := k H
theorem item_pk {prog : Program} {A : Around} {value slice : PySem.Expr} {l : Addr} {vs : List Value} {ns : List Int} {n : Nat} {k : Int} {u : Tok} {x : Int} {Q : Value → Shared → Prop} (N : News h₀ L s.heap news) (hm : (l, listOf (List.toArray vs) n) ∈ news) (hi : IntsAre vs ns) (hx : ns.getD k.toNat 0 = x) (hlen : ns.length = 4) (h0 : 0 ≤ k) (hfit : k < 4) (h : ∀ t, Q (.int x t) s)
    (hs : subscripted slice false (.ref l) (.int k u) = operate [.ref l, .int k u] (getItem (.ref l) (.int k u)) := by with_unfolding_all rfl) :
    wpAny (model prog w) A (subscriptTail value slice (.ref l) (.int k u)) Q E s := by
  have hl : k.toNat < ns.length := by omega
  have e : ns[k.toNat]? = some x := by
    rw [List.getD_eq_getElem?_getD, List.getElem?_eq_getElem hl] at hx
    rw [List.getElem?_eq_getElem hl]
    exact congrArg some hx
  obtain ⟨t, ht⟩ := hi.get _ _ e
  have hL := News.isList N hm
  exact tail_any hL.typeIs slot_list_getitem.lookup (wpAny_getItem_list hL h0 (by omega) (by simpa using ht) (h t)) hs
end
end Mine.Nst
end
theorem Mine.Off.t17 : True := by
  w_top off
  first | (walk1; done) | trivial
section
open Mine.Hi Mine.Nst
open PySem PySem.W PyProof.Rows



namespace Mine.D2i
section
variable {w : World} {p : Program} {loose : List Str} {mean : ExcName → Option Value} {mg mb : Str → Option Value}
  {dp un : Nat} {gd : Option (List Code)} {cn : Str} {cs : Scope} {a : Addr} {ccd : Value} {cl : List (Str × Addr)} {outer : List Env} {A₀ : Around} {base h₀ : Heap} {L : Addr} {m : Str → Option Value} {news : List (Addr × Obj)} {s : Shared}
    {Q E : Value → Shared → Prop}

theorem ne_low {b a : Nat} {news : List (Addr × Obj)} (h : ∀ p ∈ news, p.1 < b) (k : b ≤ a) : ∀ p ∈ news, p.1 ≠ a := fun p hp => Nat.ne_of_lt (Nat.lt_of_lt_of_le (h p hp) k)
theorem rsh_lit {prog : Program} {A : Around} {x y r : Int} {t u : Tok} {Q : Value → Shared → Prop} (e : x.fdiv (2 ^ y.toNat) = r) (hn : 0 ≤ y) (h : Q (.int r s.toks) { s with toks := s.toks + 1 }) : wpAny (model prog w) A (binaryOp .RShift (.int x t) (.int y u)) Q E s := by
  subst e; exact rshift_int hn h
theorem pow_le32 {k : Int} (h : k ≤ 5) : (0 : Int) < 2 ^ k.toNat ∧ (2 : Int) ^ k.toNat ≤ 32 := by
  have : k.toNat = 0 ∨ k.toNat = 1 ∨ k.toNat = 2 ∨ k.toNat = 3 ∨ k.toNat = 4 ∨ k.toNat = 5 := by omega
  rcases this with e | e | e | e | e | e <;> rw [e] <;> decide
theorem sh_abs {a b k : Int} (h1 : 0 ≤ a) (h2 : a ≤ 2) (h3 : 0 ≤ b) (h4 : b ≤ 2) (h : k ≤ 5) : (a * 2 ^ k.toNat + b).natAbs < 2 ^ 64 := by
  have hp := pow_le32 h
  have e : a = 0 ∨ a = 1 ∨ a = 2 := by omega
  generalize (2 : Int) ^ k.toNat = z at *
  rcases e with rfl | rfl | rfl <;> omega
theorem news_sub {h₀ h : Heap} {L : Addr} {a b : List (Addr × Obj)} (N : News h₀ L h a) (s : ∀ p ∈ b, p ∈ a) : News h₀ L h b := fun p hp => N p (s p hp)
structure Box (p : Prop) : Prop where
  out : p

noncomputable abbrev QD : Str := Str.ofString "_digits2int.<locals>.inner"
noncomputable abbrev tabD (c' : Addr) : Obj := tabObj #[rawInt 65, rawInt 4, Value.ref c']
noncomputable def d2iF (n d0 d1 d2 d3 : Int) : Int := (d3 * 2 ^ ((3 - 2) * n).toNat + d2) * 2 ^ ((2 - 0) * n).toNat + (d1 * 2 ^ ((1 - 0) * n).toNat + d0)
/-- what a call of the inner function gives, for a stretch of that many places -/
noncomputable def DSpec (w : World) (keep : List (Addr × Obj)) (f : Addr) (d u : Nat) (sz : Int) (val : Int → Int) : Prop :=
  ∀ {p : Program} {loose : List Str} {mean : ExcName → Option Value} {mg mb : Str → Option Value} {dp un : Nat} {gd : Option (List Code)} {cn : Str} {cs : Scope} {a : Addr} {ccd : Value} {cl : List (Str × Addr)} {outer : List Env} {A₀ : Around} {base h₀ : Heap} {L : Addr} {m : Str → Option Value} {news : List (Addr × Obj)} {s : Shared} {Q E : Value → Shared → Prop} (lo hi : Int) (t1 t2 : Tok),
    Below A₀ base outer h₀ → Fr h₀ L s.heap m → (hd.heap_39 w.params).In h₀ → News h₀ L s.heap news → Top p loose mean mg mb h₀ → cs.kind = .function → dp + d < recursionLimit → un + u < cLine → (∀ q ∈ keep, q ∈ news) → 0 ≤ lo → hi = lo + sz → hi ≤ 4 →
    (∀ t h' tk', Fr h₀ L h' m → News h₀ L h' news → Q (.int (val lo) t) { s with heap := h', toks := tk' }) →
    wpAny (model PySem.Challenge.rw_rw0037_01.row.prog w) (ktrTop dp un gd cn cs L a ccd cl outer) (call (.ref f) [.int lo t1, .int hi t2]) Q E s
theorem dspec_use {w : World} {keep : List (Addr × Obj)} {f : Addr} {d u : Nat} {sz : Int} {val : Int → Int} (H : DSpec w keep f d u sz val) {lo hi : Int} {t1 t2 : Tok}
    (B : Below A₀ base outer h₀) (F : Fr h₀ L s.heap m) (X : (hd.heap_39 w.params).In h₀) (N : News h₀ L s.heap news) (T : Top p loose mean mg mb h₀) (hk : cs.kind = .function) (hd : dp + d < recursionLimit) (hu : un + u < cLine) (hs : ∀ q ∈ keep, q ∈ news) (h0 : 0 ≤ lo) (h1 : hi = lo + sz) (h4 : hi ≤ 4)
    (hret : ∀ t h' tk', Fr h₀ L h' m → News h₀ L h' news → Q (.int (val lo) t) { s with heap := h', toks := tk' }) :
    wpAny (model PySem.Challenge.rw_rw0037_01.row.prog w) (ktrTop dp un gd cn cs L a ccd cl outer) (call (.ref f) [.int lo t1, .int hi t2]) Q E s := H lo hi t1 t2 B F X N T hk hd hu hs h0 h1 h4 hret
theorem half {lo s1 : Int} : (lo + (lo + (s1 + s1))).fdiv (2 ^ (1 : Int).toNat) = lo + s1 := by
  show (lo + (lo + (s1 + s1))).fdiv (2 ^ 1) = lo + s1
  rw [Int.fdiv_eq_ediv_of_nonneg _ (by decide)]
  omega
theorem sh_ok {lo s1 n : Int} (h0 : 0 ≤ s1) (h1 : s1 ≤ 4) (n1 : 1 ≤ n) (n2 : n ≤ 5) : 0 ≤ (lo + s1 - lo) * n ∧ (lo + s1 - lo) * n ≤ 1000000 := by
  have e : lo + s1 - lo = s1 := by omega
  rw [e]
  have h : s1 = 0 ∨ s1 = 1 ∨ s1 = 2 ∨ s1 = 3 ∨ s1 = 4 := by omega
  rcases h with rfl | rfl | rfl | rfl | rfl <;> omega
noncomputable def v0 (d0 d1 d2 d3 lo : Int) : Int := [d0, d1, d2, d3].getD lo.toNat 0
noncomputable def v1 (n d0 d1 d2 d3 s1 lo : Int) (v : Int → Int) : Int := v (lo + s1) * 2 ^ ((lo + s1 - lo) * n).toNat + v lo
theorem v0_bd {d0 d1 d2 d3 : Int} (h00 : 0 ≤ d0) (h01 : d0 ≤ 2) (h10 : 0 ≤ d1) (h11 : d1 ≤ 2) (h20 : 0 ≤ d2) (h21 : d2 ≤ 2) (h30 : 0 ≤ d3) (h31 : d3 ≤ 2) (x : Int) : 0 ≤ v0 d0 d1 d2 d3 x ∧ v0 d0 d1 d2 d3 x ≤ 2 := by
  unfold v0
  have : x.toNat = 0 ∨ x.toNat = 1 ∨ x.toNat = 2 ∨ x.toNat = 3 ∨ 4 ≤ x.toNat := by omega
  rcases this with e | e | e | e | e
  · rw [e]; exact ⟨h00, h01⟩
  · rw [e]; exact ⟨h10, h11⟩
  · rw [e]; exact ⟨h20, h21⟩
  · rw [e]; exact ⟨h30, h31⟩
  · rw [List.getD_eq_getElem?_getD, List.getElem?_eq_none (by simpa using e)]
    exact ⟨by decide, by decide⟩
theorem v1_bd {n s1 lo : Int} {d0 d1 d2 d3 : Int} {v : Int → Int} (h0 : 0 ≤ s1) (h1 : s1 ≤ 1) (n2 : n ≤ 5) (hv : ∀ x, 0 ≤ v x ∧ v x ≤ 2) : (v1 n d0 d1 d2 d3 s1 lo v).natAbs < 2 ^ 64 := by
  unfold v1
  have e : lo + s1 - lo = s1 := by omega
  rw [e]
  have hs : s1 = 0 ∨ s1 = 1 := by omega
  rcases hs with rfl | rfl
  · exact sh_abs (hv _).1 (hv _).2 (hv _).1 (hv _).2 (by omega)
  · exact sh_abs (hv _).1 (hv _).2 (hv _).1 (hv _).2 (by omega)
theorem dspec_chain {keep : List (Addr × Obj)} {f : Addr} {n d0 d1 d2 d3 : Int} (n1 : 1 ≤ n) (n2 : n ≤ 5) (hv : ∀ x, 0 ≤ v0 d0 d1 d2 d3 x ∧ v0 d0 d1 d2 d3 x ≤ 2) (leaf : DSpec w keep f 0 4 1 (v0 d0 d1 d2 d3))
    (split : ∀ d u s1 v, 1 ≤ s1 → s1 ≤ 2 → (∀ lo, 0 ≤ (lo + s1 - lo) * n ∧ (lo + s1 - lo) * n ≤ 1000000) → (∀ x, (v x).natAbs < 2 ^ 64) → DSpec w keep f d u s1 v → DSpec w keep f (d + 1) (u + 8) (s1 + s1) (fun lo => v1 n d0 d1 d2 d3 s1 lo v)) : DSpec w keep f 2 20 (2 + 2) (fun lo => v1 n d0 d1 d2 d3 2 lo fun lo => v1 n d0 d1 d2 d3 1 lo (v0 d0 d1 d2 d3)) :=
  split 1 12 2 _ (by decide) (by decide) (fun _ => sh_ok (by decide) (by decide) n1 n2) (fun _ => v1_bd (by decide) (by decide) n2 hv) (split 0 4 1 _ (by decide) (by decide) (fun _ => sh_ok (by decide) (by decide) n1 n2) (fun x => by have := hv x; omega) leaf)
theorem d2i_all {d0 d1 d2 d3 n : Int} {l : Addr} {t2 u0 u1 u2 u3 : Tok} {k : Nat} {ps : Array Value}
    (B : Below A₀ base outer h₀) (F : Fr h₀ L s.heap m) (X : (hd.heap_39 w.params).In h₀) (N : News h₀ L s.heap ((44, tabObj ps) :: news)) (T : Top p loose mean mg mb h₀) (hk : cs.kind = .function)
    (hd : dp + 5 < recursionLimit) (hu : un + 80 < cLine) (htab : TabOk 65 4 QD ps news) (hn1 : 1 ≤ n) (hn2 : n ≤ 5) (h00 : 0 ≤ d0) (h01 : d0 ≤ 2) (h10 : 0 ≤ d1) (h11 : d1 ≤ 2) (h20 : 0 ≤ d2) (h21 : d2 ≤ 2) (h30 : 0 ≤ d3) (h31 : d3 ≤ 2)
    (hm : ∀ p ∈ news, p.1 ≠ 44) (hl : (l, listOf #[.int d0 u0, .int d1 u1, .int d2 u2, .int d3 u3] k) ∈ news)
    (hret : ∀ t h' tk' c' (oc' : Obj) vs' (t' : Tok), Fr h₀ L h' m → News h₀ L h' ((c', oc') :: (44, tabD c') :: news) → oc'.data = Data.fields vs' → vs'[1]? = some (Value.str QD t') → ((ps = #[] ∧ (∀ p ∈ news, p.1 < c') ∧ 44 < c') ∨ (ps = #[rawInt 65, rawInt 4, .ref c'] ∧ (c', oc') ∈ news)) → Q (.int (d2iF n d0 d1 d2 d3) t) { s with heap := h', toks := tk' }) :
    wpAny (model PySem.Challenge.rw_rw0037_01.row.prog w) (ktrTop dp un gd cn cs L a ccd cl outer) (call (.ref 49) [.ref l, .int n t2]) Q E s := by
  k_with_none
  k_with "execs cons" => (first | (k_here; k_gentoks) | (k_here; k_made) | ((with_reducible refine Mine.Hi.ex_hid ?_); intro qH'Q hH'Q; (try dsimp only)))
  k_with "is_list" => (exact News.isList (by k_asm) (by k_mem))
  k_with "k_mem" => (assumption)
  k_with "k_all" => (first | assumption | (refine ne_low (by assumption) ?_; omega))
  k_with "binaryOp RShift int int" => (first | (refine rsh_lit (r := 1) (by decide) (by decide) ?_) | (refine rsh_lit (r := 2) (by decide) (by decide) ?_) | (refine rsh_lit (r := 3) (by decide) (by decide) ?_))
  k_with "binaryOp RShift int int" => ((refine rsh_lit (by assumption) (by decide) ?_))
  k_with "binaryOp LShift int int" => ((refine lshift_int_small ?k1K ?k2K ?k3K ?_; (case k1K => assumption); (case k2K => assumption); (case k3K => assumption)))
  k_with "subscriptTail Name Name ref int" => ((k_here; k_dflt (refine' item_pk ?aK ?bK ?cK ?dK ?eK ?fK ?gK ?_; (case aK => k_asm); (case bK => k_mem); (case cK => assumption); (case dK => exact rfl); (case eK => exact rfl); (case fK => assumption); (case gK => omega)); intro _))
  k_with "ite" => (first | (refine ite_pos (beq_t (by omega)) ?_) | (refine ite_neg (beq_f (by omega)) ?_))
  k_with "call ref" => ((k_here; (with_reducible show wpAny _ _ (call (Value.ref _) [Value.int _ _, Value.int _ _]) _ _ _); k_dflt (refine' dspec_use ?zHK ?zBK ?zFK ?zXK ?zNK ?zTK ?zkK ?zdK ?zuK ?zsK ?z1K ?z2K ?z3K ?_; (case zHK => with_reducible assumption); (case zBK => k_asm); (case zFK => k_asm); (case zXK => k_asm); (case zNK => k_asm); (case zTK => k_asm); (case zkK => first | exact rfl | assumption); (case zdK => ktr_room); (case zuK => ktr_units); (case zsK => first | assumption | exact fun p hp => hp); (case z1K => omega); (case z2K => omega); (case z3K => omega)); intro t'Q h'Q tk'Q F'Q N'Q; (try k_sweep); (try dsimp only); (try k_fold)))
  revert X
  have hx : PySem.Challenge.rw_rw0037_01 = PySem.Challenge.rw_rw0037_01 := rfl
  revert hx
  k_fill
  intro hx X
  refine wpAny_call ?_
  k_dflt (refine' code_defC ?k1 ?k2 ?k3 ?k4 ?k5 ?kA ?kF ?kK ?k6 ?k7 ?k8 ?k9 ?kB ?kD ?_ ?c2 ?c3 ?c4; (case kA => exact rfl); (case kF => exact rfl); (case kK => assumption); (case k1 => k_asm); (case k2 => k_asm); (case k3 => k_asm); (case k4 => k_asm); (case k5 => k_asm); (case k6 => k_is); (case k7 => k_is); (case k8 => ktr_room); (case k9 => exact BindsTo.of_eq rfl); (case kB => exact rfl); (case kD => decide +kernel); (case c2 => exact rfl); (case c3 => exact rfl); (case c4 => exact rfl); k_whole; intro g' L' h' tk' cells' FG' F' N' Y' B' X' T' l1; (try k_lt l1); k_cells Y'; (try simp only [List.cons_append, List.nil_append] at N'); (try dsimp only); (try k_fold))
  have hlow := tb_ltOf l1.2
  have C' : CodeHd g' 48 44 := codeHd_of_K X' (by kernel_rfl)
  repeat' ((fail_if_success (with_reducible show wpAny _ _ (exec (Stmt.FunctionDef _ _ _ _ _ _ _ _ _ _) _) _ _ _)); first | (((fail_if_success (with_reducible show wpAny _ _ _ _ _ _)); first | (refine Mine.Hi.HidV.out (by with_reducible assumption) _ _ ?_) | (refine Mine.Hi.Hid.nxt (by with_reducible assumption) _ ?_) | (refine Mine.Hi.Hid.oth (by with_reducible assumption) _ _ (fun h => nomatch h) ?_)); (try dsimp only)) | (k_unfold; (try dsimp only)) | (k_end; wrow_close) | ((with_reducible show wpAny _ _ (PySem.evalPart _ _) _ _ _); walk1) | ((with_reducible show wpAny _ _ (PyProof.Rows.subscriptTail _ _ _ _) _ _ _); walk1) | (walk1 <;> (try ((fail_if_success (with_reducible show wpAny _ _ (PyProof.Rows.subscriptTail _ _ _ _) _ _ _)); dsimp only))) | (dsimp only; walk1 <;> (try ((fail_if_success (with_reducible show wpAny _ _ (PyProof.Rows.subscriptTail _ _ _ _) _ _ _)); dsimp only))) | (leave1; walk_say "STEP leave1"; try dsimp only))
  (k_dflt (refine' nestDef_K ?d0 ?k0 ?a0 ?_; (case d0 => exact rfl); (case k0 => exact rfl); (case a0 => exact rfl)); k_dflt (refine' nest_or ?F ?N ?T ?C ?cd ?U ?ps ?sub ?cl ?_; (case F => k_asm); (case N => k_asm); (case T => k_asm); (case cd => exact rfl); (case C => kn_code); (case U => k_updF); (case ps => assumption); (case sub => exact fun p hp => by repeat (first | exact hp | apply List.Mem.tail)); (case cl => exact rfl); k_whole))
  intro f' c' oc' vs' t' ct' dc' h' tk' F' N' e1 e2 l1 l2 l3
  try dsimp only at N'
  k_lt l1
  have l4 := Or.imp (fun q => allLt_of q.2) (fun q => ltN (hlow _ q.2)) l3
  simp only [AllLt, and_true] at l4
  replace l2 := ltN l2
  repeat' ((fail_if_success (with_reducible show wpAny _ _ (exec (Stmt.Return _ _) _) _ _ _)); first | (((fail_if_success (with_reducible show wpAny _ _ _ _ _ _)); first | (refine Mine.Hi.HidV.out (by with_reducible assumption) _ _ ?_) | (refine Mine.Hi.Hid.nxt (by with_reducible assumption) _ ?_) | (refine Mine.Hi.Hid.oth (by with_reducible assumption) _ _ (fun h => nomatch h) ?_)); (try dsimp only)) | (k_unfold; (try dsimp only)) | (k_end; wrow_close) | ((with_reducible show wpAny _ _ (PySem.evalPart _ _) _ _ _); walk1) | ((with_reducible show wpAny _ _ (PyProof.Rows.subscriptTail _ _ _ _) _ _ _); walk1) | (walk1 <;> (try ((fail_if_success (with_reducible show wpAny _ _ (PyProof.Rows.subscriptTail _ _ _ _) _ _ _)); dsimp only))) | (dsimp only; walk1 <;> (try ((fail_if_success (with_reducible show wpAny _ _ (PyProof.Rows.subscriptTail _ _ _ _) _ _ _)); dsimp only))) | (leave1; walk_say "STEP leave1"; try dsimp only))
  refine' in_with (P := fun keep f => DSpec w keep f 2 20 (2 + 2) (fun lo => v1 n d0 d1 d2 d3 2 lo fun lo => v1 n d0 d1 d2 d3 1 lo (v0 d0 d1 d2 d3))) ?wN ?spec ?_
  case wN => k_asm
  case spec =>
    refine dspec_chain hn1 hn2 (v0_bd h00 h01 h10 h11 h20 h21 h30 h31) ?leaf ?split
    case leaf =>
      intro p loose mean mg mb dp un gd cn cs a ccd cl outer A₀ base h₀ L m news2 s Q E lo hi t1 t2 B F X N T hk hd hu hs h0 h1 h4 hret
      simp only [List.forall_mem_cons] at hs
      refine Mine.Hi.hideG (fun G hG => ?_)
      obtain ⟨m1, m2, m3, m4, m5, m6, m7⟩ := hs
      refine hG ?_
      clear hG
      have ml := m7 _ hl
      have hi4 : IntsAre [Value.int d0 u0, Value.int d1 u1, Value.int d2 u2, Value.int d3 u3] [d0, d1, d2, d3] := .cons _ _ (.cons _ _ (.cons _ _ (.cons _ _ .nil)))
      refine wpAny_call ?_
      (k_dflt (refine' kdv_code ?k1 ?k2 ?k3 ?k4 ?k5 ?kA ?kF ?kK ?k6 ?k7 ?k8 ?k9 ?kB ?_ ?c2 ?c3 ?c4 ?c5; (case kA => exact rfl); (case kF => exact rfl); (case kK => assumption); (case k1 => k_asm); (case k2 => k_asm); (case k3 => k_asm); (case k4 => k_asm); (case k5 => k_asm); (case k6 => k_mem); (case k7 => exact codeRec_news (by k_asm) (by k_mem) (by assumption) (by assumption)); (case k8 => ktr_room); (case k9 => kdv_bind); (case c5 => decide); (case kB => exact locs rfl); (case c2 => exact rfl); (case c3 => exact rfl); (case c4 => exact rfl); k_whole; intro g' L' h' FG' F' N' B' X' T'; (try dsimp only); (try k_fold)))
      repeat' (first | (((fail_if_success (with_reducible show wpAny _ _ _ _ _ _)); first | (refine Mine.Hi.HidV.out (by with_reducible assumption) _ _ ?_) | (refine Mine.Hi.Hid.nxt (by with_reducible assumption) _ ?_) | (refine Mine.Hi.Hid.oth (by with_reducible assumption) _ _ (fun h => nomatch h) ?_)); (try dsimp only)) | (k_unfold; (try dsimp only)) | (k_end; wrow_close) | ((with_reducible show wpAny _ _ (PySem.evalPart _ _) _ _ _); walk1) | ((with_reducible show wpAny _ _ (PyProof.Rows.subscriptTail _ _ _ _) _ _ _); walk1) | (walk1 <;> (try ((fail_if_success (with_reducible show wpAny _ _ (PyProof.Rows.subscriptTail _ _ _ _) _ _ _)); dsimp only))) | (dsimp only; walk1 <;> (try ((fail_if_success (with_reducible show wpAny _ _ (PyProof.Rows.subscriptTail _ _ _ _) _ _ _)); dsimp only))) | (leave1; walk_say "STEP leave1"; try dsimp only) | fail "no step")
      all_goals (try k_data)
      exact hret _ _ _ (by k_asm) (by k_asm)
    case split =>
      intro dd uu s1 v g1 g2 hsh hvb HV p loose mean mg mb dp un gd cn cs a ccd cl outer A₀ base h₀ L m news2 s Q E lo hi t1 t2 B F X N T hk hd hu hs h0 h1 h4 hret
      have hs2 := hs
      simp only [List.forall_mem_cons] at hs2
      refine Mine.Hi.hideG (fun G hG => ?_)
      obtain ⟨m1, m2, m3, m4, m5, m6, m7⟩ := hs2
      refine hG ?_
      clear hG
      subst h1
      have hmid := half (lo := lo) (s1 := s1)
      have hk1 := (hsh lo).1
      have hk2 := (hsh lo).2
      have hk3 := hvb (lo + s1)
      refine wpAny_call ?_
      (k_dflt (refine' kdv_code ?k1 ?k2 ?k3 ?k4 ?k5 ?kA ?kF ?kK ?k6 ?k7 ?k8 ?k9 ?kB ?_ ?c2 ?c3 ?c4 ?c5; (case kA => exact rfl); (case kF => exact rfl); (case kK => assumption); (case k1 => k_asm); (case k2 => k_asm); (case k3 => k_asm); (case k4 => k_asm); (case k5 => k_asm); (case k6 => k_mem); (case k7 => exact codeRec_news (by k_asm) (by k_mem) (by assumption) (by assumption)); (case k8 => ktr_room); (case k9 => kdv_bind); (case c5 => decide); (case kB => exact locs rfl); (case c2 => exact rfl); (case c3 => exact rfl); (case c4 => exact rfl); k_whole; intro g' L' h' FG' F' N' B' X' T'; (try dsimp only); (try k_fold)))
      repeat' (first | (((fail_if_success (with_reducible show wpAny _ _ _ _ _ _)); first | (refine Mine.Hi.HidV.out (by with_reducible assumption) _ _ ?_) | (refine Mine.Hi.Hid.nxt (by with_reducible assumption) _ ?_) | (refine Mine.Hi.Hid.oth (by with_reducible assumption) _ _ (fun h => nomatch h) ?_)); (try dsimp only)) | (k_unfold; (try dsimp only)) | (k_end; wrow_close) | ((with_reducible show wpAny _ _ (PySem.evalPart _ _) _ _ _); walk1) | ((with_reducible show wpAny _ _ (PyProof.Rows.subscriptTail _ _ _ _) _ _ _); walk1) | (walk1 <;> (try ((fail_if_success (with_reducible show wpAny _ _ (PyProof.Rows.subscriptTail _ _ _ _) _ _ _)); dsimp only))) | (dsimp only; walk1 <;> (try ((fail_if_success (with_reducible show wpAny _ _ (PyProof.Rows.subscriptTail _ _ _ _) _ _ _)); dsimp only))) | (leave1; walk_say "STEP leave1"; try dsimp only) | fail "no step")
      all_goals (try k_data)
      exact hret _ _ _ (by k_asm) (by k_asm)
  intro HS
  repeat' (first | (((fail_if_success (with_reducible show wpAny _ _ _ _ _ _)); first | (refine Mine.Hi.HidV.out (by with_reducible assumption) _ _ ?_) | (refine Mine.Hi.Hid.nxt (by with_reducible assumption) _ ?_) | (refine Mine.Hi.Hid.oth (by with_reducible assumption) _ _ (fun h => nomatch h) ?_)); (try dsimp only)) | (k_unfold; (try dsimp only)) | (k_end; wrow_close) | ((with_reducible show wpAny _ _ (PySem.evalPart _ _) _ _ _); walk1) | ((with_reducible show wpAny _ _ (PyProof.Rows.subscriptTail _ _ _ _) _ _ _); walk1) | (walk1 <;> (try ((fail_if_success (with_reducible show wpAny _ _ (PyProof.Rows.subscriptTail _ _ _ _) _ _ _)); dsimp only))) | (dsimp only; walk1 <;> (try ((fail_if_success (with_reducible show wpAny _ _ (PyProof.Rows.subscriptTail _ _ _ _) _ _ _)); dsimp only))) | (leave1; walk_say "STEP leave1"; try dsimp only) | fail "no step")
  all_goals (try k_data)
  refine' hret _ _ _ ?c ?oc ?vs ?t ?F ?N ?d1 ?d2 ?z
  case d1 => assumption
  case d2 => assumption
  case F => k_asm
  case N => exact news_sub (by k_asm) (List.forall_mem_cons.mpr ⟨List.Mem.tail _ (List.Mem.head _), fun p hp => List.Mem.tail _ (List.Mem.tail _ (List.Mem.tail _ (List.Mem.tail _ (List.Mem.tail _ hp))))⟩)
  case z => exact l3.imp (fun q => ⟨q.1, fun p hp => q.2 _ (by repeat (first | exact hp | apply List.Mem.tail)), q.2 (44, tabObj ps) (by repeat (first | exact List.Mem.head _ | apply List.Mem.tail))⟩) id
theorem d2i_call {d0 d1 d2 d3 n : Int} {l : Addr} {t2 u0 u1 u2 u3 : Tok} {k : Nat}
    (B : Below A₀ base outer h₀) (F : Fr h₀ L s.heap m) (X : (hd.heap_39 w.params).In h₀) (N : News h₀ L s.heap ((44, tabObj #[]) :: news)) (T : Top p loose mean mg mb h₀) (hk : cs.kind = .function)
    (hd : dp + 5 < recursionLimit) (hu : un + 80 < cLine)  (hn1 : 1 ≤ n) (hn2 : n ≤ 5) (h00 : 0 ≤ d0) (h01 : d0 ≤ 2) (h10 : 0 ≤ d1) (h11 : d1 ≤ 2) (h20 : 0 ≤ d2) (h21 : d2 ≤ 2) (h30 : 0 ≤ d3) (h31 : d3 ≤ 2)
    (hm : ∀ p ∈ news, p.1 ≠ 44) (hl : (l, listOf #[.int d0 u0, .int d1 u1, .int d2 u2, .int d3 u3] k) ∈ news)
    (hret : ∀ t h' tk' c' (oc' : Obj) vs' (t' : Tok), Fr h₀ L h' m → News h₀ L h' ((c', oc') :: (44, tabObj #[rawInt 65, rawInt 4, Value.ref c']) :: news) → oc'.data = Data.fields vs' → vs'[1]? = some (Value.str (Str.ofString "_digits2int.<locals>.inner") t') → (∀ p ∈ news, p.1 < c') → 44 < c' → Q (.int (d2iF n d0 d1 d2 d3) t) { s with heap := h', toks := tk' }) :
    wpAny (model PySem.Challenge.rw_rw0037_01.row.prog w) (ktrTop dp un gd cn cs L a ccd cl outer) (call (.ref 49) [.ref l, .int n t2]) Q E s := by
  refine d2i_all B F X N T hk hd hu (.inl rfl) hn1 hn2 h00 h01 h10 h11 h20 h21 h30 h31 hm hl fun t h' tk' c' oc' vs' t' F' N' e1 e2 l3 => ?_
  rcases l3 with ⟨_, l3, l4⟩ | ⟨e, _⟩
  · exact hret t h' tk' c' oc' vs' t' F' N' e1 e2 l3 l4
  · cases e
theorem d2i_hit {d0 d1 d2 d3 n : Int} {l : Addr} {t2 u0 u1 u2 u3 : Tok} {k : Nat} {c' : Addr} {oc' : Obj} {vs' : Array Value} {t' : Tok}
    (B : Below A₀ base outer h₀) (F : Fr h₀ L s.heap m) (X : (hd.heap_39 w.params).In h₀) (N : News h₀ L s.heap news) (T : Top p loose mean mg mb h₀) (hk : cs.kind = .function)
    (hd : dp + 5 < recursionLimit) (hu : un + 80 < cLine)  (hn1 : 1 ≤ n) (hn2 : n ≤ 5) (h00 : 0 ≤ d0) (h01 : d0 ≤ 2) (h10 : 0 ≤ d1) (h11 : d1 ≤ 2) (h20 : 0 ≤ d2) (h21 : d2 ≤ 2) (h30 : 0 ≤ d3) (h31 : d3 ≤ 2)
    (hm : (44, tabObj #[rawInt 65, rawInt 4, Value.ref c']) ∈ news) (hc : (c', oc') ∈ news) (hc1 : oc'.data = Data.fields vs') (hc2 : vs'[1]? = some (Value.str (Str.ofString "_digits2int.<locals>.inner") t')) (hl : (l, listOf #[.int d0 u0, .int d1 u1, .int d2 u2, .int d3 u3] k) ∈ news)
    (hret : ∀ t h' tk', Fr h₀ L h' m → News h₀ L h' news → Q (.int (d2iF n d0 d1 d2 d3) t) { s with heap := h', toks := tk' }) :
    wpAny (model PySem.Challenge.rw_rw0037_01.row.prog w) (ktrTop dp un gd cn cs L a ccd cl outer) (call (.ref 49) [.ref l, .int n t2]) Q E s := by
  have g44 := (N _ hm).1
  have hne : c' ≠ 44 := fun e => by
    have := (N _ hc).1
    rw [show ((c', oc') : Addr × Obj).1 = 44 from e, g44] at this
    have e2 : tabD c' = oc' := Option.some.inj this
    rw [← e2] at hc1
    cases hc1
    simp [rawInt] at hc2
  have hln : l ≠ 44 := fun e => by
    have := (N _ hl).1
    rw [show ((l, listOf #[.int d0 u0, .int d1 u1, .int d2 u2, .int d3 u3] k) : Addr × Obj).1 = 44 from e, g44] at this
    cases this
  refine d2i_all (ps := #[rawInt 65, rawInt 4, .ref c']) (news := news.filter fun q => decide (q.1 ≠ 44)) B F X (fun p hp => N p ?_) T hk hd hu (.inr ⟨c', oc', vs', t', rfl, List.mem_filter.mpr ⟨hc, by simpa using hne⟩, hc1, hc2⟩) hn1 hn2 h00 h01 h10 h11 h20 h21 h30 h31 (fun p hp => by simpa using (List.mem_filter.mp hp).2) (List.mem_filter.mpr ⟨hl, by simpa using hln⟩) ?_
  · rcases List.mem_cons.mp hp with rfl | hp
    · exact hm
    · exact (List.mem_filter.mp hp).1
  · intro t h' tk' c2 oc2 vs2 t2 F' N' e1 e2 l3
    have hcc : c2 = c' := by
      rcases l3 with ⟨e, _⟩ | ⟨e, _⟩
      · cases e
      · have := congrArg (fun a : Array Value => a[2]?) e
        simpa using this.symm
    subst hcc
    refine hret t h' tk' F' (fun p hp => N' p ?_)
    by_cases e : p.1 = 44
    · have : p = (44, tabD c2) := by
        have := (N p hp).1
        rw [e, g44] at this
        exact Prod.ext e (Option.some.inj this).symm
      rw [this]; exact .tail _ (.head _)
    · exact .tail _ (.tail _ (List.mem_filter.mpr ⟨hp, by simpa using e⟩))
end
end Mine.D2i
end
theorem Mine.Off.t18 : True := by
  w_top off
  first | (walk1; done) | trivial
section
open Mine.Hi Mine.Nst
open PySem PySem.W PyProof.Rows



namespace Mine.I2d
section
variable {w : World} {p : Program} {loose : List Str} {mean : ExcName → Option Value} {mg mb : Str → Option Value}
  {dp un : Nat} {gd : Option (List Code)} {cn : Str} {cs : Scope} {a : Addr} {ccd : Value} {cl : List (Str × Addr)} {outer : List Env} {A₀ : Around} {base h₀ : Heap} {L : Addr} {m : Str → Option Value} {news : List (Addr × Obj)} {s : Shared}
    {Q E : Value → Shared → Prop}

theorem ne_low {b a : Nat} {news : List (Addr × Obj)} (h : ∀ p ∈ news, p.1 < b) (k : b ≤ a) : ∀ p ∈ news, p.1 ≠ a := fun p hp => Nat.ne_of_lt (Nat.lt_of_lt_of_le (h p hp) k)
theorem rsh_lit {prog : Program} {A : Around} {x y r : Int} {t u : Tok} {Q : Value → Shared → Prop} (e : x.fdiv (2 ^ y.toNat) = r) (hn : 0 ≤ y) (h : Q (.int r s.toks) { s with toks := s.toks + 1 }) : wpAny (model prog w) A (binaryOp .RShift (.int x t) (.int y u)) Q E s := by
  subst e; exact rshift_int hn h
theorem pow_le32 {k : Int} (h : k ≤ 5) : (0 : Int) < 2 ^ k.toNat ∧ (2 : Int) ^ k.toNat ≤ 32 := by
  have : k.toNat = 0 ∨ k.toNat = 1 ∨ k.toNat = 2 ∨ k.toNat = 3 ∨ k.toNat = 4 ∨ k.toNat = 5 := by omega
  rcases this with e | e | e | e | e | e <;> rw [e] <;> decide
theorem sh_abs {a b k : Int} (h1 : 0 ≤ a) (h2 : a ≤ 2) (h3 : 0 ≤ b) (h4 : b ≤ 2) (h : k ≤ 5) : (a * 2 ^ k.toNat + b).natAbs < 2 ^ 64 := by
  have hp := pow_le32 h
  have e : a = 0 ∨ a = 1 ∨ a = 2 := by omega
  generalize (2 : Int) ^ k.toNat = z at *
  rcases e with rfl | rfl | rfl <;> omega
theorem news_sub {h₀ h : Heap} {L : Addr} {a b : List (Addr × Obj)} (N : News h₀ L h a) (s : ∀ p ∈ b, p ∈ a) : News h₀ L h b := fun p hp => N p (s p hp)
structure Box (p : Prop) : Prop where
  out : p

noncomputable abbrev loX (x s : Int) : Int := Builtin.bitXor x (x.fdiv (2 ^ s.toNat) * 2 ^ s.toNat)
noncomputable abbrev hiX (x s : Int) : Int := x.fdiv (2 ^ s.toNat)
noncomputable def i2dC (n x : Int) : Nat → List Int
  | 0 => []
  | 1 => [x]
  | 2 => [loX x ((1 - 0) * n), hiX x ((1 - 0) * n)]
  | 3 => [loX x ((1 - 0) * n), loX (hiX x ((1 - 0) * n)) ((2 - 1) * n), hiX (hiX x ((1 - 0) * n)) ((2 - 1) * n)]
  | _ => [loX (loX x ((2 - 0) * n)) ((1 - 0) * n), hiX (loX x ((2 - 0) * n)) ((1 - 0) * n), loX (hiX x ((2 - 0) * n)) ((3 - 2) * n), hiX (hiX x ((2 - 0) * n)) ((3 - 2) * n)]
theorem iset {prog : Program} {A : Around} {D : Addr} {news' : List (Addr × Obj)} {vs : List Value} {ws : List Int} {n C : Nat} {k x : Int} {t u : Tok} {Q : Unit → Shared → Prop} (F : Fr h₀ L s.heap m) (N : News h₀ L s.heap news) (U : Upd D (listOf vs.toArray n) (listOf (vs.set k.toNat (.int x u)).toArray n) news news') (hi : IntsAre vs ws) (h0 : 0 ≤ k) (hw : ws.length = C) (hC : C ≤ 4) (h1 : k < (C : Int))
    (h : ∀ h', Fr h₀ L h' m → News h₀ L h' news' → IntsAre (vs.set k.toNat (.int x u)) (ws.set k.toNat x) → Q () { s with heap := h' }) :
    wpAny (model prog w) A (setItem (.ref D) (.int k t) (.int x u)) Q E s := by
  have ints_set : ∀ {vs : List Value} {ns : List Int}, IntsAre vs ns → ∀ j : Nat, IntsAre (vs.set j (.int x u)) (ns.set j x) := by
    intro vs ns h
    induction h with
    | nil => intro j; exact .nil
    | cons i t h ih =>
      intro j
      cases j with
      | zero => exact .cons x u h
      | succ j => exact .cons i t (ih j)
  obtain ⟨pre, post, rfl, rfl, a, b⟩ := U.split
  have z := N (D, listOf vs.toArray n) (List.mem_append.mpr (.inr (.head _)))
  have hl : vs.length = ws.length := hi.length
  have hs : vs.toArray.size = ws.length := by rw [List.size_toArray]; exact hl
  refine ki_setAt z.1 h0 (by omega) (by omega) (h _ (F.change (Heap.SameBut.update ..) z.2.1 z.2.2) (ki_turn _ N a b ?_ ?_) (ints_set hi _))
  · show vs.toArray.setIfInBounds k.toNat (.int x u) = (vs.set k.toNat (.int x u)).toArray
    apply Array.toList_inj.mp
    simp
  · simp
/-- what a call of the inner function does to the list, for a stretch of that many places -/
noncomputable def ISpec (w : World) (keep : List (Addr × Obj)) (f D : Addr) (C : Nat) (d u : Nat) (sz : Int) (ok : Int → Prop) (U : Int → Int → List Int → List Int) : Prop :=
  ∀ (x lo hh : Int) (t0 t1 t2 : Tok) (vs : List Value) (ns : List Int) (k : Nat) {p : Program} {loose : List Str} {mean : ExcName → Option Value} {mg mb : Str → Option Value} {dp un : Nat} {gd : Option (List Code)} {cn : Str} {cs : Scope} {a : Addr} {ccd : Value} {cl : List (Str × Addr)} {outer : List Env} {A₀ : Around} {base h₀ : Heap} {L : Addr} {m : Str → Option Value} {news : List (Addr × Obj)} {s : Shared} {Q E : Value → Shared → Prop},
    Below A₀ base outer h₀ → Fr h₀ L s.heap m → (hd.heap_39 w.params).In h₀ → News h₀ L s.heap ((D, listOf (List.toArray vs) k) :: news) → (∀ q ∈ news, q.1 ≠ D) → Top p loose mean mg mb h₀ → cs.kind = .function → dp + d < recursionLimit → un + u < cLine → (∀ q ∈ keep, q ∈ news) → IntsAre vs ns → ns.length = C → ok x → 0 ≤ lo → hh = lo + sz → hh ≤ (C : Int) →
    (∀ h' tk' vs', Fr h₀ L h' m → News h₀ L h' ((D, listOf (List.toArray vs') k) :: news) → IntsAre vs' (U x lo ns) → (U x lo ns).length = C → Q .none { s with heap := h', toks := tk' }) →
    wpAny (model PySem.Challenge.rw_rw0037_01.row.prog w) (ktrTop dp un gd cn cs L a ccd cl outer) (call (.ref f) [.int x t0, .int lo t1, .int hh t2]) Q E s
noncomputable def ISpecB (w : World) (keep : List (Addr × Obj)) (f D : Addr) (C : Nat) (d u : Nat) (sz : Int) (ok : Int → Prop) (U : Int → Int → List Int → List Int) : Prop := ISpec w keep f D C d u sz ok U
section
variable {keep : List (Addr × Obj)} {f D : Addr} {C d u k : Nat} {sz x lo hh : Int} {t0 t1 t2 : Tok} {ok : Int → Prop} {U : Int → Int → List Int → List Int} {vs : List Value} {ns : List Int}
theorem ispec_use (H : ISpec w keep f D C d u sz ok U) (B : Below A₀ base outer h₀) (F : Fr h₀ L s.heap m) (X : (hd.heap_39 w.params).In h₀) (N : News h₀ L s.heap ((D, listOf (List.toArray vs) k) :: news)) (hD : ∀ q ∈ news, q.1 ≠ D) (T : Top p loose mean mg mb h₀) (hk : cs.kind = .function) (hd : dp + d < recursionLimit) (hu : un + u < cLine) (hs : ∀ q ∈ keep, q ∈ news) (hi : IntsAre vs ns) (hl : ns.length = C) (hx : ok x) (h0 : 0 ≤ lo) (h1 : hh = lo + sz) (h4 : hh ≤ (C : Int))
    (hret : ∀ h' tk' vs', Fr h₀ L h' m → News h₀ L h' ((D, listOf (List.toArray vs') k) :: news) → IntsAre vs' (U x lo ns) → (U x lo ns).length = C → Q .none { s with heap := h', toks := tk' }) :
    wpAny (model PySem.Challenge.rw_rw0037_01.row.prog w) (ktrTop dp un gd cn cs L a ccd cl outer) (call (.ref f) [.int x t0, .int lo t1, .int hh t2]) Q E s := H x lo hh t0 t1 t2 vs ns k B F X N hD T hk hd hu hs hi hl hx h0 h1 h4 hret
theorem ispec_useB (H : ISpecB w keep f D C d u sz ok U) (B : Below A₀ base outer h₀) (F : Fr h₀ L s.heap m) (X : (hd.heap_39 w.params).In h₀) (N : News h₀ L s.heap ((D, listOf (List.toArray vs) k) :: news)) (hD : ∀ q ∈ news, q.1 ≠ D) (T : Top p loose mean mg mb h₀) (hk : cs.kind = .function) (hd : dp + d < recursionLimit) (hu : un + u < cLine) (hs : ∀ q ∈ keep, q ∈ news) (hi : IntsAre vs ns) (hl : ns.length = C) (hx : ok x) (h0 : 0 ≤ lo) (h1 : hh = lo + sz) (h4 : hh ≤ (C : Int))
    (hret : ∀ h' tk' vs', Fr h₀ L h' m → News h₀ L h' ((D, listOf (List.toArray vs') k) :: news) → IntsAre vs' (U x lo ns) → (U x lo ns).length = C → Q .none { s with heap := h', toks := tk' }) :
    wpAny (model PySem.Challenge.rw_rw0037_01.row.prog w) (ktrTop dp un gd cn cs L a ccd cl outer) (call (.ref f) [.int x t0, .int lo t1, .int hh t2]) Q E s := H x lo hh t0 t1 t2 vs ns k B F X N hD T hk hd hu hs hi hl hx h0 h1 h4 hret
end
noncomputable def U1 (x lo : Int) (ns : List Int) : List Int := ns.set lo.toNat x
noncomputable def Us (n s1 : Int) (Ua Ub : Int → Int → List Int → List Int) (x lo : Int) (ns : List Int) : List Int := Ub (hiX x (s1 * n)) (lo + s1) (Ua (loX x (s1 * n)) lo ns)
noncomputable def oks (n s1 : Int) (oa ob : Int → Prop) (x : Int) : Prop := (0 ≤ x ∧ x < 2 ^ 20) ∧ oa (loX x (s1 * n)) ∧ ob (hiX x (s1 * n))
noncomputable def UC (n : Int) : Nat → Int → Int → List Int → List Int
  | 0 => fun _ _ ns => ns
  | 1 => U1
  | 2 => Us n 1 U1 U1
  | 3 => Us n 1 U1 (Us n 1 U1 U1)
  | _ => Us n 2 (Us n 1 U1 U1) (Us n 1 U1 U1)
noncomputable def okC (n : Int) : Nat → Int → Prop
  | 0 => fun _ => True
  | 1 => fun _ => True
  | 2 => oks n 1 (fun _ => True) (fun _ => True)
  | 3 => oks n 1 (fun _ => True) (oks n 1 (fun _ => True) (fun _ => True))
  | _ => oks n 2 (oks n 1 (fun _ => True) (fun _ => True)) (oks n 1 (fun _ => True) (fun _ => True))
theorem rep_ints {t : Tok} : ∀ c : Nat, IntsAre (List.replicate c [Value.int 0 t]).flatten (List.replicate c (0 : Int))
  | 0 => .nil
  | c + 1 => by
    rw [List.replicate_succ, List.replicate_succ, List.flatten_cons]
    exact .cons _ _ (rep_ints c)
theorem cst {keep : List (Addr × Obj)} {f D : Addr} {C d u : Nat} {a b : Int} {ok : Int → Prop} {U : Int → Int → List Int → List Int} (e : a = b) (H : ISpec w keep f D C d u a ok U) : ISpec w keep f D C d u b ok U := e ▸ H
theorem ispec_chain {keep : List (Addr × Obj)} {f D : Addr} {C c : Nat} {n : Int} (c1 : 1 ≤ c) (c4 : c ≤ 4) (leaf : ∀ d u, ISpec w keep f D C d u 1 (fun _ => True) U1)
    (split : ∀ d u s1 s2 oa ob Ua Ub, 1 ≤ s1 → s1 ≤ 2 → (s2 = s1 ∨ s2 = s1 + 1) → ISpec w keep f D C d u s1 oa Ua → ISpecB w keep f D C d u s2 ob Ub → ISpec w keep f D C (d + 1) (u + 8) (s1 + s2) (oks n s1 oa ob) (Us n s1 Ua Ub)) : ISpec w keep f D C 2 20 (c : Int) (okC n c) (UC n c) := by
  have two : ISpec w keep f D C 1 12 (1 + 1) (oks n 1 (fun _ => True) (fun _ => True)) (Us n 1 U1 U1) := split 0 4 1 1 _ _ _ _ (by decide) (by decide) (.inl rfl) (leaf 0 4) (leaf 0 4)
  have hc : c = 1 ∨ c = 2 ∨ c = 3 ∨ c = 4 := by omega
  rcases hc with rfl | rfl | rfl | rfl
  · exact cst rfl (@leaf 2 20)
  · exact cst rfl (@split 1 12 1 1 _ _ _ _ (by decide) (by decide) (.inl rfl) (leaf 1 12) (leaf 1 12))
  · exact cst rfl (@split 1 12 1 2 _ _ _ _ (by decide) (by decide) (.inr rfl) (leaf 1 12) two)
  · exact cst rfl (@split 1 12 2 2 _ _ _ _ (by decide) (by decide) (.inl rfl) two two)
theorem off_of {h₀ h : Heap} {L D : Addr} {od : Obj} {r : List (Addr × Obj)} (_N : News h₀ L h ((D, od) :: r)) (k : ∀ q ∈ r, q.1 ≠ D) : ∀ q ∈ r, q.1 ≠ D := k
theorem front {h₀ h : Heap} {L D : Addr} {a b : Addr × Obj} {c k : Nat} {t : Tok} {r : List (Addr × Obj)} (N : News h₀ L h (a :: b :: (D, listOf (List.toArray (List.replicate (c : Int).toNat [Value.int 0 t]).flatten) k) :: r)) : ∃ vs ns, ns = List.replicate c (0 : Int) ∧ ns.length = c ∧ vs.length = c ∧ IntsAre vs ns ∧ News h₀ L h ((D, listOf (List.toArray vs) k) :: a :: b :: r) := by
  refine ⟨_, _, rfl, List.length_replicate, ?_, rep_ints (t := t) c, fun p hp => N p ?_⟩
  · rw [(rep_ints (t := t) c).length, List.length_replicate]
  · rcases List.mem_cons.mp hp with rfl | hp
    · exact .tail _ (.tail _ (.head _))
    rcases List.mem_cons.mp hp with rfl | hp
    · exact .head _
    rcases List.mem_cons.mp hp with rfl | hp
    · exact .tail _ (.head _)
    exact .tail _ (.tail _ (.tail _ hp))
theorem in_withD {h₀ h : Heap} {L f c D : Addr} {keep : List (Addr × Obj)} {o oc od : Obj} {P : List (Addr × Obj) → Addr → Addr → Prop} {G : Prop} (_N : News h₀ L h ((D, od) :: (f, o) :: (c, oc) :: keep)) (H : P ((f, o) :: (c, oc) :: keep) f D) (k : P ((f, o) :: (c, oc) :: keep) f D → G) : G := k H
theorem halfs {lo s1 s2 : Int} (h : s2 = s1 ∨ s2 = s1 + 1) : (lo + (lo + (s1 + s2))).fdiv (2 ^ (1 : Int).toNat) = lo + s1 := by
  show (lo + (lo + (s1 + s2))).fdiv (2 ^ 1) = lo + s1
  rw [Int.fdiv_eq_ediv_of_nonneg _ (by decide)]
  omega
theorem sh_ok {lo s1 n : Int} (h0 : 1 ≤ s1) (h1 : s1 ≤ 2) (n1 : 1 ≤ n) (n2 : n ≤ 5) : 0 ≤ (lo + s1 - lo) * n ∧ (lo + s1 - lo) * n ≤ 1000000 := by
  have e : lo + s1 - lo = s1 := by omega
  rw [e]
  have h : s1 = 1 ∨ s1 = 2 := by omega
  rcases h with rfl | rfl <;> omega
theorem hi_bd {x s : Int} (h0 : 0 ≤ x) (h1 : x < 2 ^ 20) : 0 ≤ hiX x s ∧ hiX x s < 2 ^ 20 := by
  unfold hiX
  have hp : (0 : Int) < 2 ^ s.toNat := Int.pow_pos (by decide)
  rw [Int.fdiv_eq_ediv_of_nonneg _ (Int.le_of_lt hp)]
  exact ⟨Int.ediv_nonneg h0 (Int.le_of_lt hp), Int.lt_of_le_of_lt (Int.ediv_le_self _ h0) h1⟩
theorem UC_C {n x : Int} {c : Nat} (c1 : 1 ≤ c) (c4 : c ≤ 4) : UC n c x 0 (List.replicate c 0) = i2dC n x c := by
  have hc : c = 1 ∨ c = 2 ∨ c = 3 ∨ c = 4 := by omega
  rcases hc with rfl | rfl | rfl | rfl <;> rfl
theorem okC_of {n x : Int} {c : Nat} (c4 : c ≤ 4) (h0 : 0 ≤ x) (h1 : x < 2 ^ 20) (h2 : 0 ≤ loX x ((2 - 0) * n)) (h3 : loX x ((2 - 0) * n) < 2 ^ 20) : okC n c x := by
  have hc : c = 0 ∨ c = 1 ∨ c = 2 ∨ c = 3 ∨ c = 4 := by omega
  rcases hc with rfl | rfl | rfl | rfl | rfl
  · trivial
  · trivial
  · exact ⟨⟨h0, h1⟩, trivial, trivial⟩
  · exact ⟨⟨h0, h1⟩, trivial, hi_bd h0 h1, trivial, trivial⟩
  · exact ⟨⟨h0, h1⟩, ⟨⟨h2, h3⟩, trivial, trivial⟩, hi_bd h0 h1, trivial, trivial⟩
theorem ints_C {n x : Int} {c : Nat} {vs : List Value} {ns : List Int} (c1 : 1 ≤ c) (c4 : c ≤ 4) (e : ns = List.replicate c 0) (h : IntsAre vs (UC n c x 0 ns)) : IntsAre vs (i2dC n x c) := by
  rw [e, UC_C c1 c4] at h
  exact h
theorem i2d_all0 {x n : Int} {t1 t2 : Tok} {ps : Array Value} {c : Nat}
    (B : Below A₀ base outer h₀) (F : Fr h₀ L s.heap m) (X : (hd.heap_39 w.params).In h₀) (N : News h₀ L s.heap ((37, tabObj ps) :: news)) (T : Top p loose mean mg mb h₀) (hk : cs.kind = .function)
    (hd : dp + 5 < recursionLimit) (hu : un + 80 < cLine) (htab : TabOk 50 4 (Str.ofString "_int2digits.<locals>.inner") ps news) (hx0 : 0 ≤ x) (hx1 : x < 2 ^ 20) (hn1 : 1 ≤ n) (hn2 : n ≤ 5) (hc : Box ((↑(Builtin.Int.intBits x) + n - 1).fdiv n = (c : Int))) (hc4 : Box (c ≤ 4)) (hz : Box (c = 0 ↔ x = 0)) (hlo0 : 0 ≤ loX x ((2 - 0) * n)) (hlo1 : loX x ((2 - 0) * n) < 2 ^ 20)
    (hm : ∀ p ∈ news, p.1 ≠ 37)
    (hret : ∀ D vs k h' tk' c' (oc' : Obj) vs' (t' : Tok), Fr h₀ L h' m → News h₀ L h' ((D, listOf (List.toArray vs) k) :: (c', oc') :: (37, tabObj #[rawInt 50, rawInt 4, Value.ref c']) :: news) → IntsAre vs (i2dC n x c) → oc'.data = Data.fields vs' → vs'[1]? = some (Value.str (Str.ofString "_int2digits.<locals>.inner") t') → (∀ p ∈ news, p.1 < D) → 37 < D → ((ps = #[] ∧ (∀ p ∈ news, p.1 < c') ∧ D < c') ∨ (ps = #[rawInt 50, rawInt 4, .ref c'] ∧ (c', oc') ∈ news)) → Q (.ref D) { s with heap := h', toks := tk' }) :
    wpAny (model PySem.Challenge.rw_rw0037_01.row.prog w) (ktrTop dp un gd cn cs L a ccd cl outer) (call (.ref 42) [.int x t1, .int n t2]) Q E s := by
  k_with_none
  k_with "execs cons" => (first | (k_here; k_gentoks) | (k_here; k_made) | ((with_reducible refine Mine.Hi.ex_hid ?_); intro qH'Q hH'Q; (try dsimp only)))
  k_with "is_list" => (exact News.isList (by k_asm) (by k_mem))
  k_with "k_mem" => (assumption)
  k_with "k_all" => (first | assumption | (refine ne_low (by assumption) ?_; omega))
  k_with "binaryOp RShift int int" => (first | (refine rsh_lit (r := 1) (by decide) (by decide) ?_) | (refine rsh_lit (r := 2) (by decide) (by decide) ?_) | (refine rsh_lit (r := 3) (by decide) (by decide) ?_))
  k_with "k_mem" => (first | assumption | exact List.Mem.head _ | (refine' List.Mem.tail _ ?_; assumption))
  k_with "binaryOp RShift int int" => (first | (refine rsh_lit (by assumption) (by decide) ?_) | (refine rshift_int (by assumption) ?_))
  k_with "binaryOp LShift int int" => ((refine lshift_int_small ?k1K ?k2K ?k3K ?_; (case k1K => assumption); (case k2K => assumption); (case k3K => assumption)))
  k_with "ite" => (first | (refine ite_pos (beq_t (by omega)) ?_) | (refine ite_neg (beq_f (by omega)) ?_))
  k_with "setItem ref int" => ((k_here; k_dflt (refine' iset ?k1K ?k2K ?k3K ?k4K ?k5K ?k6K ?k8K ?k7K ?_; (case k1K => k_asm); (case k2K => k_asm); (case k3K => k_upd); (case k4K => assumption); (case k5K => assumption); (case k6K => assumption); (case k7K => omega); (case k8K => assumption); k_whole); intro h'Q F'Q N'Q hi'Q; (try k_sweep)))
  k_with "call ref" => ((k_here; (with_reducible show wpAny _ _ (call (Value.ref _) [Value.int _ _, Value.int _ _, Value.int _ _]) _ _ _); first | k_dflt (refine' ispec_use ?zHK ?zBK ?zFK ?zXK ?zNK ?zDK ?zTK ?zkK ?zdK ?zuK ?zsK ?ziK ?zlK ?zoK ?z1K ?z2K ?z3K ?_; (case zHK => with_reducible assumption); (case z2K => omega); (case zBK => k_asm); (case zFK => k_asm); (case zXK => k_asm); (case zNK => k_asm); (case zDK => assumption); (case zTK => k_asm); (case zkK => first | exact rfl | assumption); (case zdK => ktr_room); (case zuK => ktr_units); (case zsK => first | assumption | exact fun p hp => hp); (case ziK => assumption); (case zlK => assumption); (case zoK => assumption); (case z1K => omega); (case z3K => omega)) | k_dflt (refine' ispec_useB ?zHK ?zBK ?zFK ?zXK ?zNK ?zDK ?zTK ?zkK ?zdK ?zuK ?zsK ?ziK ?zlK ?zoK ?z1K ?z2K ?z3K ?_; (case zHK => with_reducible assumption); (case z2K => omega); (case zBK => k_asm); (case zFK => k_asm); (case zXK => k_asm); (case zNK => k_asm); (case zDK => assumption); (case zTK => k_asm); (case zkK => first | exact rfl | assumption); (case zdK => ktr_room); (case zuK => ktr_units); (case zsK => first | assumption | exact fun p hp => hp); (case ziK => assumption); (case zlK => assumption); (case zoK => assumption); (case z1K => omega); (case z3K => omega)); intro h'Q tk'Q vs'Q F'Q N'Q hi'Q hl'Q; (try k_sweep); (try dsimp only); (try k_fold)))
  revert X
  have hx : PySem.Challenge.rw_rw0037_01 = PySem.Challenge.rw_rw0037_01 := rfl
  revert hx
  k_fill
  intro hx X
  refine wpAny_call ?_
  k_dflt (refine' code_defC ?k1 ?k2 ?k3 ?k4 ?k5 ?kA ?kF ?kK ?k6 ?k7 ?k8 ?k9 ?kB ?kD ?_ ?c2 ?c3 ?c4; (case kA => exact rfl); (case kF => exact rfl); (case kK => assumption); (case k1 => k_asm); (case k2 => k_asm); (case k3 => k_asm); (case k4 => k_asm); (case k5 => k_asm); (case k6 => k_is); (case k7 => k_is); (case k8 => ktr_room); (case k9 => exact BindsTo.of_eq rfl); (case kB => exact rfl); (case kD => decide +kernel); (case c2 => exact rfl); (case c3 => exact rfl); (case c4 => exact rfl); k_whole; intro g' L' h' tk' cells' FG' F' N' Y' B' X' T' l1; (try k_lt l1); k_cells Y'; (try simp only [List.cons_append, List.nil_append] at N'); (try dsimp only); (try k_fold))
  have hlow := tb_ltOf l1.2
  have C' : CodeHd g' 41 37 := codeHd_of_K X' (by kernel_rfl)
  repeat' (first | (((fail_if_success (with_reducible show wpAny _ _ _ _ _ _)); first | (refine Mine.Hi.HidV.out (by with_reducible assumption) _ _ ?_) | (refine Mine.Hi.Hid.nxt (by with_reducible assumption) _ ?_) | (refine Mine.Hi.Hid.oth (by with_reducible assumption) _ _ (fun h => nomatch h) ?_)); (try dsimp only)) | (k_unfold; (try dsimp only)) | (k_end; wrow_close) | ((with_reducible show wpAny _ _ (PySem.evalPart _ _) _ _ _); walk1) | ((with_reducible show wpAny _ _ (PyProof.Rows.subscriptTail _ _ _ _) _ _ _); walk1) | (walk1 <;> (try ((fail_if_success (with_reducible show wpAny _ _ (PyProof.Rows.subscriptTail _ _ _ _) _ _ _)); dsimp only))) | (dsimp only; walk1 <;> (try ((fail_if_success (with_reducible show wpAny _ _ (PyProof.Rows.subscriptTail _ _ _ _) _ _ _)); dsimp only))) | (leave1; walk_say "STEP leave1"; try dsimp only) | fail "no step")
  all_goals (try rw [hc.out])
  replace hc4 := hc4.out
  repeat' ((fail_if_success (with_reducible show wpAny _ _ (exec (Stmt.FunctionDef _ _ _ _ _ _ _ _ _ _) _) _ _ _)); first | (((fail_if_success (with_reducible show wpAny _ _ _ _ _ _)); first | (refine Mine.Hi.HidV.out (by with_reducible assumption) _ _ ?_) | (refine Mine.Hi.Hid.nxt (by with_reducible assumption) _ ?_) | (refine Mine.Hi.Hid.oth (by with_reducible assumption) _ _ (fun h => nomatch h) ?_)); (try dsimp only)) | (k_unfold; (try dsimp only)) | (k_end; wrow_close) | ((with_reducible show wpAny _ _ (PySem.evalPart _ _) _ _ _); walk1) | ((with_reducible show wpAny _ _ (PyProof.Rows.subscriptTail _ _ _ _) _ _ _); walk1) | (walk1 <;> (try ((fail_if_success (with_reducible show wpAny _ _ (PyProof.Rows.subscriptTail _ _ _ _) _ _ _)); dsimp only))) | (dsimp only; walk1 <;> (try ((fail_if_success (with_reducible show wpAny _ _ (PyProof.Rows.subscriptTail _ _ _ _) _ _ _)); dsimp only))) | (leave1; walk_say "STEP leave1"; try dsimp only))
  (k_dflt (refine' nestDef_K ?d0 ?k0 ?a0 ?_; (case d0 => exact rfl); (case k0 => exact rfl); (case a0 => exact rfl)); k_dflt (refine' nest_or ?F ?N ?T ?C ?cd ?U ?ps ?sub ?cl ?_; (case F => k_asm); (case N => k_asm); (case T => k_asm); (case cd => exact rfl); (case C => kn_code); (case U => k_updF); (case ps => assumption); (case sub => exact fun p hp => by repeat (first | exact hp | apply List.Mem.tail)); (case cl => exact rfl); k_whole))
  intro f' c' oc' vs' t' ct' dc' h' tk' F' N' e1 e2 l1 l2 l3
  try dsimp only at N'
  k_lt l1
  have l4 := Or.imp (fun q => allLt_of q.2) (fun q => ltN (hlow _ q.2)) l3
  simp only [AllLt, and_true] at l4
  replace l2 := ltN l2
  repeat' ((fail_if_success (with_reducible show wpAny _ _ (exec (Stmt.If _ _ _ _) _) _ _ _)); first | (((fail_if_success (with_reducible show wpAny _ _ _ _ _ _)); first | (refine Mine.Hi.HidV.out (by with_reducible assumption) _ _ ?_) | (refine Mine.Hi.Hid.nxt (by with_reducible assumption) _ ?_) | (refine Mine.Hi.Hid.oth (by with_reducible assumption) _ _ (fun h => nomatch h) ?_)); (try dsimp only)) | (k_unfold; (try dsimp only)) | (k_end; wrow_close) | ((with_reducible show wpAny _ _ (PySem.evalPart _ _) _ _ _); walk1) | ((with_reducible show wpAny _ _ (PyProof.Rows.subscriptTail _ _ _ _) _ _ _); walk1) | (walk1 <;> (try ((fail_if_success (with_reducible show wpAny _ _ (PyProof.Rows.subscriptTail _ _ _ _) _ _ _)); dsimp only))) | (dsimp only; walk1 <;> (try ((fail_if_success (with_reducible show wpAny _ _ (PyProof.Rows.subscriptTail _ _ _ _) _ _ _)); dsimp only))) | (leave1; walk_say "STEP leave1"; try dsimp only))
  refine Mine.Hi.hideG (fun G hG => ?_)
  obtain ⟨vs0, ns0, hns, hnl, hv, hz0, N2⟩ := front (by k_asm)
  refine hG ?_
  clear hG
  have hz := hz.out
  rcases Nat.eq_zero_or_pos c with c0 | c1
  · obtain rfl := hz.mp c0
    subst c0
    repeat' (first | (((fail_if_success (with_reducible show wpAny _ _ _ _ _ _)); first | (refine Mine.Hi.HidV.out (by with_reducible assumption) _ _ ?_) | (refine Mine.Hi.Hid.nxt (by with_reducible assumption) _ ?_) | (refine Mine.Hi.Hid.oth (by with_reducible assumption) _ _ (fun h => nomatch h) ?_)); (try dsimp only)) | (k_unfold; (try dsimp only)) | (k_end; wrow_close) | ((with_reducible show wpAny _ _ (PySem.evalPart _ _) _ _ _); walk1) | ((with_reducible show wpAny _ _ (PyProof.Rows.subscriptTail _ _ _ _) _ _ _); walk1) | (walk1 <;> (try ((fail_if_success (with_reducible show wpAny _ _ (PyProof.Rows.subscriptTail _ _ _ _) _ _ _)); dsimp only))) | (dsimp only; walk1 <;> (try ((fail_if_success (with_reducible show wpAny _ _ (PyProof.Rows.subscriptTail _ _ _ _) _ _ _)); dsimp only))) | (leave1; walk_say "STEP leave1"; try dsimp only) | fail "no step")
    all_goals (try k_data)
    obtain rfl := List.eq_nil_of_length_eq_zero hv
    refine' hret _ _ _ _ _ ?c ?oc ?vs ?t ?F ?N ?i ?d1 ?d2 ?x ?y ?z
    case d1 => assumption
    case d2 => assumption
    case F => k_asm
    case N => exact news_sub (by k_asm) (List.forall_mem_cons.mpr ⟨by repeat (first | exact List.Mem.head _ | apply List.Mem.tail), List.forall_mem_cons.mpr ⟨by repeat (first | exact List.Mem.head _ | apply List.Mem.tail), List.forall_mem_cons.mpr ⟨by repeat (first | exact List.Mem.head _ | apply List.Mem.tail), fun p hp => by repeat (first | exact hp | apply List.Mem.tail)⟩⟩⟩)
    case i => exact .nil
    case x => exact fun p hp => Nat.lt_trans (hlow _ hp) (ltN (by omega))
    case y => refine ltN ?_; omega
    case z => exact l3.imp (fun q => ⟨q.1, fun p hp => q.2 _ (by repeat (first | exact hp | apply List.Mem.tail)), q.2 _ (List.Mem.head _)⟩) id
  · refine' in_withD (P := fun keep f D => ISpec w keep f D c 2 20 (c : Int) (okC n c) (UC n c)) ?wN ?spec ?_
    case wN => k_asm
    case spec =>
      refine ispec_chain c1 hc4 ?leaf ?split
      case leaf =>
        intro d u x lo hh t0 t1 t2 vs ns k p loose mean mg mb dp un gd cn cs a ccd cl outer A₀ base h₀ L m news2 s Q E B F X N hD T hk hd hu hs hi hl hx h0 h1 h4 hret
        simp only [List.forall_mem_cons] at hs
        refine Mine.Hi.hideG (fun G hG => ?_)
        obtain ⟨m1, m2, m3, m4, m5, m6, m7, m8⟩ := hs
        refine hG ?_
        clear hG
        refine wpAny_call ?_
        (k_dflt (refine' kdv_code ?k1 ?k2 ?k3 ?k4 ?k5 ?kA ?kF ?kK ?k6 ?k7 ?k8 ?k9 ?kB ?_ ?c2 ?c3 ?c4 ?c5; (case kA => exact rfl); (case kF => exact rfl); (case kK => assumption); (case k1 => k_asm); (case k2 => k_asm); (case k3 => k_asm); (case k4 => k_asm); (case k5 => k_asm); (case k6 => k_mem); (case k7 => exact codeRec_news (by k_asm) (by k_mem) (by assumption) (by assumption)); (case k8 => ktr_room); (case k9 => kdv_bind); (case c5 => decide); (case kB => exact locs rfl); (case c2 => exact rfl); (case c3 => exact rfl); (case c4 => exact rfl); k_whole; intro g' L' h' FG' F' N' B' X' T'; (try dsimp only); (try k_fold)))
        repeat' (first | (((fail_if_success (with_reducible show wpAny _ _ _ _ _ _)); first | (refine Mine.Hi.HidV.out (by with_reducible assumption) _ _ ?_) | (refine Mine.Hi.Hid.nxt (by with_reducible assumption) _ ?_) | (refine Mine.Hi.Hid.oth (by with_reducible assumption) _ _ (fun h => nomatch h) ?_)); (try dsimp only)) | (k_unfold; (try dsimp only)) | (k_end; wrow_close) | ((with_reducible show wpAny _ _ (PySem.evalPart _ _) _ _ _); walk1) | ((with_reducible show wpAny _ _ (PyProof.Rows.subscriptTail _ _ _ _) _ _ _); walk1) | (walk1 <;> (try ((fail_if_success (with_reducible show wpAny _ _ (PyProof.Rows.subscriptTail _ _ _ _) _ _ _)); dsimp only))) | (dsimp only; walk1 <;> (try ((fail_if_success (with_reducible show wpAny _ _ (PyProof.Rows.subscriptTail _ _ _ _) _ _ _)); dsimp only))) | (leave1; walk_say "STEP leave1"; try dsimp only) | fail "no step")
        all_goals (try k_data)
        exact hret _ _ _ (by k_asm) (by k_asm) (by assumption) ((List.length_set ..).trans hl)
      case split =>
        intro d u s1 s2 oa ob Ua Ub g1 g2 g3 HA HB x lo hh t0 t1 t2 vs ns k p loose mean mg mb dp un gd cn cs a ccd cl outer A₀ base h₀ L m news2 s Q E B F X N hD T hk hd hu hs hi hl hx h0 h1 h4 hret
        have hs2 := hs
        simp only [List.forall_mem_cons] at hs2
        refine Mine.Hi.hideG (fun G hG => ?_)
        obtain ⟨m1, m2, m3, m4, m5, m6, m7, m8⟩ := hs2
        refine hG ?_
        clear hG
        subst h1
        have hmid := halfs (lo := lo) g3
        obtain ⟨hk1, hk2⟩ := sh_ok (lo := lo) g1 g2 hn1 hn2
        have e1 : lo + s1 - lo = s1 := by omega
        unfold Us at hret
        obtain ⟨⟨hx0, hx1⟩, hoa, hob⟩ := hx
        rw [← e1] at hoa hob
        obtain ⟨hb0, hb1⟩ := hi_bd (s := (lo + s1 - lo) * n) hx0 hx1
        have hk3 : (hiX x ((lo + s1 - lo) * n)).natAbs < 2 ^ 64 := by omega
        refine wpAny_call ?_
        (k_dflt (refine' kdv_code ?k1 ?k2 ?k3 ?k4 ?k5 ?kA ?kF ?kK ?k6 ?k7 ?k8 ?k9 ?kB ?_ ?c2 ?c3 ?c4 ?c5; (case kA => exact rfl); (case kF => exact rfl); (case kK => assumption); (case k1 => k_asm); (case k2 => k_asm); (case k3 => k_asm); (case k4 => k_asm); (case k5 => k_asm); (case k6 => k_mem); (case k7 => exact codeRec_news (by k_asm) (by k_mem) (by assumption) (by assumption)); (case k8 => ktr_room); (case k9 => kdv_bind); (case c5 => decide); (case kB => exact locs rfl); (case c2 => exact rfl); (case c3 => exact rfl); (case c4 => exact rfl); k_whole; intro g' L' h' FG' F' N' B' X' T'; (try dsimp only); (try k_fold)))
        repeat' (first | (((fail_if_success (with_reducible show wpAny _ _ _ _ _ _)); first | (refine Mine.Hi.HidV.out (by with_reducible assumption) _ _ ?_) | (refine Mine.Hi.Hid.nxt (by with_reducible assumption) _ ?_) | (refine Mine.Hi.Hid.oth (by with_reducible assumption) _ _ (fun h => nomatch h) ?_)); (try dsimp only)) | (k_unfold; (try dsimp only)) | (k_end; wrow_close) | ((with_reducible show wpAny _ _ (PySem.evalPart _ _) _ _ _); walk1) | ((with_reducible show wpAny _ _ (PyProof.Rows.subscriptTail _ _ _ _) _ _ _); walk1) | (walk1 <;> (try ((fail_if_success (with_reducible show wpAny _ _ (PyProof.Rows.subscriptTail _ _ _ _) _ _ _)); dsimp only))) | (dsimp only; walk1 <;> (try ((fail_if_success (with_reducible show wpAny _ _ (PyProof.Rows.subscriptTail _ _ _ _) _ _ _)); dsimp only))) | (leave1; walk_say "STEP leave1"; try dsimp only) | fail "no step")
        all_goals (try k_data)
        refine hret _ _ _ (by k_asm) (by k_asm) ?_ ?_
        · (with_reducible rename IntsAre _ (Ub _ _ _) => q)
          rw [e1] at q
          exact q
        · (with_reducible rename List.length (Ub _ _ _) = _ => q)
          rw [e1] at q
          exact q
    intro HS
    have hok := okC_of (n := n) hc4 hx0 hx1 hlo0 hlo1
    have hD := off_of N2 (by (repeat (refine List.forall_mem_cons.mpr ⟨by (show @Ne Nat _ _); omega, ?_⟩)); exact fun p hp => Nat.ne_of_lt (Nat.lt_trans (hlow _ hp) (ltN (by omega))))
    repeat' (first | (((fail_if_success (with_reducible show wpAny _ _ _ _ _ _)); first | (refine Mine.Hi.HidV.out (by with_reducible assumption) _ _ ?_) | (refine Mine.Hi.Hid.nxt (by with_reducible assumption) _ ?_) | (refine Mine.Hi.Hid.oth (by with_reducible assumption) _ _ (fun h => nomatch h) ?_)); (try dsimp only)) | (k_unfold; (try dsimp only)) | (k_end; wrow_close) | ((with_reducible show wpAny _ _ (PySem.evalPart _ _) _ _ _); walk1) | ((with_reducible show wpAny _ _ (PyProof.Rows.subscriptTail _ _ _ _) _ _ _); walk1) | (walk1 <;> (try ((fail_if_success (with_reducible show wpAny _ _ (PyProof.Rows.subscriptTail _ _ _ _) _ _ _)); dsimp only))) | (dsimp only; walk1 <;> (try ((fail_if_success (with_reducible show wpAny _ _ (PyProof.Rows.subscriptTail _ _ _ _) _ _ _)); dsimp only))) | (leave1; walk_say "STEP leave1"; try dsimp only) | fail "no step")
    all_goals (try k_data)
    all_goals (try (exact absurd (hz.mpr (by assumption)) (Nat.ne_of_gt c1)))
    refine' hret _ _ _ _ _ ?c ?oc ?vs ?t ?F ?N ?i ?d1 ?d2 ?x ?y ?z
    case d1 => assumption
    case d2 => assumption
    case F => k_asm
    case N => exact news_sub (by k_asm) (List.forall_mem_cons.mpr ⟨by repeat (first | exact List.Mem.head _ | apply List.Mem.tail), List.forall_mem_cons.mpr ⟨by repeat (first | exact List.Mem.head _ | apply List.Mem.tail), List.forall_mem_cons.mpr ⟨by repeat (first | exact List.Mem.head _ | apply List.Mem.tail), fun p hp => by repeat (first | exact hp | apply List.Mem.tail)⟩⟩⟩)
    case i => exact ints_C c1 hc4 hns (by assumption)
    case x => exact fun p hp => Nat.lt_trans (hlow _ hp) (ltN (by omega))
    case y => refine ltN ?_; omega
    case z => exact l3.imp (fun q => ⟨q.1, fun p hp => q.2 _ (by repeat (first | exact hp | apply List.Mem.tail)), q.2 _ (List.Mem.head _)⟩) id
end
end Mine.I2d
end
theorem Mine.Off.t19 : True := by
  w_top off
  first | (walk1; done) | trivial
section
open Mine.F3
open PySem PySem.W PyProof.Rows



namespace Mine.F5
section
variable {w : World} {p : Program} {loose : List Str} {mean : ExcName → Option Value} {mg mb : Str → Option Value}
  {dp un : Nat} {gd : Option (List Code)} {cn : Str} {cs : Scope} {a : Addr} {ccd : Value} {cl : List (Str × Addr)} {outer : List Env} {A₀ : Around} {base h₀ : Heap} {L : Addr} {m : Str → Option Value} {news : List (Addr × Obj)} {s : Shared}
    {Q E : Value → Shared → Prop}

theorem ne_low {b a : Nat} {news : List (Addr × Obj)} (h : ∀ p ∈ news, p.1 < b) (k : b ≤ a) : ∀ p ∈ news, p.1 ≠ a := fun p hp => Nat.ne_of_lt (Nat.lt_of_lt_of_le (h p hp) k)
theorem rsh_lit {prog : Program} {A : Around} {x y r : Int} {t u : Tok} {Q : Value → Shared → Prop} (e : x.fdiv (2 ^ y.toNat) = r) (hn : 0 ≤ y) (h : Q (.int r s.toks) { s with toks := s.toks + 1 }) : wpAny (model prog w) A (binaryOp .RShift (.int x t) (.int y u)) Q E s := by
  subst e; exact rshift_int hn h
theorem pow_le32 {k : Int} (h : k ≤ 5) : (0 : Int) < 2 ^ k.toNat ∧ (2 : Int) ^ k.toNat ≤ 32 := by
  have : k.toNat = 0 ∨ k.toNat = 1 ∨ k.toNat = 2 ∨ k.toNat = 3 ∨ k.toNat = 4 ∨ k.toNat = 5 := by omega
  rcases this with e | e | e | e | e | e <;> rw [e] <;> decide
theorem sh_abs {a b k : Int} (h1 : 0 ≤ a) (h2 : a ≤ 2) (h3 : 0 ≤ b) (h4 : b ≤ 2) (h : k ≤ 5) : (a * 2 ^ k.toNat + b).natAbs < 2 ^ 64 := by
  have hp := pow_le32 h
  have e : a = 0 ∨ a = 1 ∨ a = 2 := by omega
  generalize (2 : Int) ^ k.toNat = z at *
  rcases e with rfl | rfl | rfl <;> omega
theorem news_sub {h₀ h : Heap} {L : Addr} {a b : List (Addr × Obj)} (N : News h₀ L h a) (s : ∀ p ∈ b, p ∈ a) : News h₀ L h b := fun p hp => N p (s p hp)
structure Box (p : Prop) : Prop where
  out : p

theorem strs_set {x : Str} {u : Tok} : ∀ {vs : List Value} {ns : List Str}, StrsAre vs ns → ∀ j : Nat, StrsAre (vs.set j (.str x u)) (ns.set j x)
  | _, _, .nil, _ => .nil
  | _, _, .cons _ _ h, 0 => .cons x u h
  | _, _, .cons i t h, j + 1 => .cons i t (strs_set h j)
theorem sset {prog : Program} {A : Around} {D : Addr} {news' : List (Addr × Obj)} {vs : List Value} {ws : List Str} {n : Nat} {k : Int} {x : Str} {t u : Tok} {Q : Unit → Shared → Prop} (F : Fr h₀ L s.heap m) (N : News h₀ L s.heap news) (U : Upd D (listOf vs.toArray n) (listOf (vs.set k.toNat (.str x u)).toArray n) news news') (hi : StrsAre vs ws) (h0 : 0 ≤ k) (h1 : k < ws.length) (hfit : k < 2 ^ 63)
    (h : ∀ h', Fr h₀ L h' m → News h₀ L h' news' → StrsAre (vs.set k.toNat (.str x u)) (ws.set k.toNat x) → Q () { s with heap := h' }) :
    wpAny (model prog w) A (setItem (.ref D) (.int k t) (.str x u)) Q E s := by
  obtain ⟨pre, post, rfl, rfl, a, b⟩ := U.split
  have z := N (D, listOf vs.toArray n) (List.mem_append.mpr (.inr (.head _)))
  have hl : vs.length = ws.length := hi.length
  have hs : vs.toArray.size = ws.length := by rw [List.size_toArray]; exact hl
  have hj : k.toNat < ws.length := by omega
  refine ki_setAt z.1 h0 hfit (by omega) (h _ (F.change (Heap.SameBut.update ..) z.2.1 z.2.2) (ki_turn _ N a b ?_ ?_) (strs_set hi _))
  · show vs.toArray.setIfInBounds k.toNat (.str x u) = (vs.set k.toNat (.str x u)).toArray
    apply Array.toList_inj.mp
    simp
  · simp
noncomputable def pgStep (ws : List Str) (d : Int) (mk : Str) : List Str := ws.set d.toNat (escF (ws.getD d.toNat Str.empty) ++ mk)
noncomputable def escOk (x mk : Str) : Prop := x.length ≤ 1000 ∧ (esc1 x).length ≤ 1000 ∧ (esc2 x).length ≤ 1000 ∧ (esc3 x).length ≤ 1000 ∧ (esc4 x).length ≤ 1000 ∧ (esc5 x).length ≤ 1000 ∧ (esc6 x).length ≤ 1000 ∧ (escF x).length + mk.length ≤ 1000
noncomputable def pgOk (ws : List Str) (d : Int) (mk : Str) : Prop := escOk (ws.getD d.toNat Str.empty) mk
theorem pgStep_len {ws : List Str} {d : Int} {mk : Str} : (pgStep ws d mk).length = ws.length := List.length_set ..
noncomputable abbrev pg0 : List Str := [Str.ofString "", Str.ofString "", Str.ofString ""]
theorem unr1 {h₀ : Heap} {L I a B : Addr} {it o : Obj} {rest : (Str → Option Value) → List (Addr × Obj) → Prop} {s₁ : Shared} {h' : Heap} {tk : Nat} {m' : Str → Option Value} {all news : List (Addr × Obj)} (hl : ∀ p ∈ news, p.1 < B) (F : Fr h₀ L h' m') (N : News h₀ L h' all)
    (hI : (I, it) ∈ all) (hq : (a, o) ∈ all) (hs : ∀ p ∈ news, p ∈ all) (hB : @LE.le Nat _ B I) (hne : @Ne Nat a I) (r : rest m' ((a, o) :: news)) : UnrEnd h₀ L s₁ I it rest { s₁ with heap := h', toks := tk } :=
  UnrEnd.intro F N ((a, o) :: news) (fun p hp => by
    rcases List.mem_cons.mp hp with rfl | hp
    · exact hI
    · rcases List.mem_cons.mp hp with rfl | hp
      · exact hq
      · exact hs p hp) (fun p hp => by
    rcases List.mem_cons.mp hp with rfl | hp
    · exact hne
    · exact Nat.ne_of_lt (Nat.lt_of_lt_of_le (hl p hp) hB)) r
theorem strs_cast {vs : List Value} {ns ms : List Str} (h : StrsAre vs ns) (e : ns = ms) : StrsAre vs ms := e ▸ h
theorem le1000 {n : Nat} (h : n ≤ 1000) : n ≤ sizeLine := by rw [sizeLine_eq]; omega
theorem le63 {d : Int} (h : d ≤ 2) : d < 2 ^ 63 := by omega
theorem ltlen {ws : List Str} {d : Int} (h : ws.length = 3) (k : d ≤ 2) : d < ((ws.length : Nat) : Int) := by omega
theorem len_set {ws : List Str} {i : Nat} {x : Str} (h : ws.length = 3) : (ws.set i x).length = 3 := by rw [List.length_set]; exact h
theorem pages_call {d0 d1 d2 d3 : Int} {m0 m1 m2 m3 : Str} {ld lm : Addr} {u0 u1 u2 u3 v0 v1 v2 v3 : Tok} {k1 k2 : Nat}
    (B : Below A₀ base outer h₀) (F : Fr h₀ L s.heap m) (X : (hd.heap_39 w.params).In h₀) (N : News h₀ L s.heap news) (T : Top p loose mean mg mb h₀) (hk : cs.kind = .function)
    (hd : dp + 3 < recursionLimit) (hu : un + 24 < cLine) (hl : (ld, listOf #[.int d0 u0, .int d1 u1, .int d2 u2, .int d3 u3] k1) ∈ news) (hl2 : (lm, listOf #[.str m0 v0, .str m1 v1, .str m2 v2, .str m3 v3] k2) ∈ news)
    (h00 : 0 ≤ d0) (h01 : d0 ≤ 2) (h10 : 0 ≤ d1) (h11 : d1 ≤ 2) (h20 : 0 ≤ d2) (h21 : d2 ≤ 2) (h30 : 0 ≤ d3) (h31 : d3 ≤ 2)
    (o0 : pgOk pg0 d0 m0) (o1 : pgOk (pgStep pg0 d0 m0) d1 m1) (o2 : pgOk (pgStep (pgStep pg0 d0 m0) d1 m1) d2 m2) (o3 : pgOk (pgStep (pgStep (pgStep pg0 d0 m0) d1 m1) d2 m2) d3 m3)
    (hret : ∀ D vs k h' tk', Fr h₀ L h' m → News h₀ L h' ((D, listOf (List.toArray vs) k) :: news) → StrsAre vs (pgStep (pgStep (pgStep (pgStep pg0 d0 m0) d1 m1) d2 m2) d3 m3) → (∀ p ∈ news, p.1 < D) → Q (.ref D) { s with heap := h', toks := tk' }) :
    wpAny (model PySem.Challenge.rw_rw0037_01.row.prog w) (ktrTop dp un gd cn cs L a ccd cl outer) (call (.ref 70) [.ref ld, .ref lm]) Q E s := by
  k_with_none
  k_with "execs cons" => (first | (k_here; k_gentoks) | (k_here; k_made) | ((with_reducible refine Mine.Hi.ex_hid ?_); intro qH'Q hH'Q; (try dsimp only)))
  k_with "is_list" => (exact News.isList (by k_asm) (by k_mem))
  k_with "k_mem" => (assumption)
  k_with "k_all" => (first | assumption | (refine ne_low (by assumption) ?_; omega))
  k_with "binaryOp RShift int int" => (first | (refine rsh_lit (r := 1) (by decide) (by decide) ?_) | (refine rsh_lit (r := 2) (by decide) (by decide) ?_) | (refine rsh_lit (r := 3) (by decide) (by decide) ?_))
  k_with "UnrEnd" => ((with_unfolding_all (refine' unr1 ?hlK ?FK ?NK ?IK ?qK ?sK ?BK ?neK ?_; (case hlK => assumption); (case FK => k_asm); (case NK => k_asm))); (k_dflt ((case IK => first | exact List.Mem.head _ | exact List.Mem.tail _ (List.Mem.head _)); (case qK => first | exact List.Mem.tail _ (List.Mem.head _) | exact List.Mem.head _); (case sK => exact fun p hp => by repeat (first | exact hp | apply List.Mem.tail)); (case BK => omega); (case neK => omega))))
  k_with "binaryOp Add str str" => ((refine PyProof.Rows.add_str ?_ (le1000 (by first | exact (by assumption : escOk _ _).2.2.2.2.2.2.2)); intro _ _))
  k_with "call ref" => (((with_reducible show wpAny _ _ (call (Value.ref 63) _) _ _ _); k_dflt (refine' esc_call ?BK ?FK ?XK ?NK ?TK ?kK ?dK ?uK ?z0K ?z1K ?z2K ?z3K ?z4K ?z5K ?z6K ?_; (case BK => k_asm); (case FK => k_asm); (case XK => k_asm); (case NK => k_asm); (case TK => k_asm); (case kK => first | exact rfl | assumption); (case dK => ktr_room); (case uK => ktr_units); (case z0K => exact (by assumption : escOk _ _).1); (case z1K => exact (by assumption : escOk _ _).2.1); (case z2K => exact (by assumption : escOk _ _).2.2.1); (case z3K => exact (by assumption : escOk _ _).2.2.2.1); (case z4K => exact (by assumption : escOk _ _).2.2.2.2.1); (case z5K => exact (by assumption : escOk _ _).2.2.2.2.2.1); (case z6K => exact (by assumption : escOk _ _).2.2.2.2.2.2.1); k_whole); intro t'Q h'Q tk'Q F'Q N'Q; (try dsimp only); (try k_fold)))
  k_with "subscriptTail" => ((k_here; (with_reducible show wpAny _ _ (subscriptTail _ _ (Value.ref _) (Value.int _ _)) _ _ _); k_dflt (refine' KTb.item_list ?aK ?bK ?cK ?dK ?eK ?_; (case aK => exact News.isList (by k_asm) (by k_mem)); (case bK => first | assumption | exact .cons _ _ (.cons _ _ (.cons _ _ .nil))); (case cK => assumption); (case dK => exact ltlen (by repeat (first | exact rfl | apply len_set)) (by assumption)); (case eK => exact le63 (by assumption))); intro _ _))
  k_with "setItem ref int" => ((k_here; k_dflt (refine' sset ?k1K ?k2K ?k3K ?k4K ?k5K ?k6K ?k7K ?_; (case k1K => k_asm); (case k2K => k_asm); (case k3K => k_upd); (case k4K => first | assumption | exact .cons _ _ (.cons _ _ (.cons _ _ .nil))); (case k5K => assumption); (case k6K => exact ltlen (by repeat (first | exact rfl | apply len_set)) (by assumption)); (case k7K => exact le63 (by assumption)); k_whole); intro h'Q F'Q N'Q hi'Q; (try k_sweep)))
  unfold pgOk at o0 o1 o2 o3
  revert X
  have hx : PySem.Challenge.rw_rw0037_01 = PySem.Challenge.rw_rw0037_01 := rfl
  revert hx
  k_fill
  intro hx X
  refine wpAny_call ?_
  k_dflt (refine' code_def ?k1 ?k2 ?k3 ?k4 ?k5 ?kA ?kF ?kK ?k6 ?k7 ?k8 ?k9 ?kB ?_ ?c2 ?c3 ?c4 ?c5; (case kA => exact rfl); (case kF => exact rfl); (case kK => assumption); (case k1 => k_asm); (case k2 => k_asm); (case k3 => k_asm); (case k4 => k_asm); (case k5 => k_asm); (case k6 => k_is); (case k7 => k_is); (case k8 => ktr_room); (case k9 => exact BindsTo.of_eq rfl); (case c5 => decide); (case kB => exact locs rfl); (case c2 => exact rfl); (case c3 => exact rfl); (case c4 => exact rfl); k_whole; intro g' L' h' FG' F' N' B' X' T'; (try dsimp only); (try k_fold))
  repeat' (first | (((fail_if_success (with_reducible show wpAny _ _ _ _ _ _)); first | (refine Mine.Hi.HidV.out (by with_reducible assumption) _ _ ?_) | (refine Mine.Hi.Hid.nxt (by with_reducible assumption) _ ?_) | (refine Mine.Hi.Hid.oth (by with_reducible assumption) _ _ (fun h => nomatch h) ?_)); (try dsimp only)) | (k_unfold; (try dsimp only)) | (k_end; wrow_close) | ((with_reducible show wpAny _ _ (PySem.evalPart _ _) _ _ _); walk1) | ((with_reducible show wpAny _ _ (PyProof.Rows.subscriptTail _ _ _ _) _ _ _); walk1) | (walk1 <;> (try ((fail_if_success (with_reducible show wpAny _ _ (PyProof.Rows.subscriptTail _ _ _ _) _ _ _)); dsimp only))) | (dsimp only; walk1 <;> (try ((fail_if_success (with_reducible show wpAny _ _ (PyProof.Rows.subscriptTail _ _ _ _) _ _ _)); dsimp only))) | (leave1; walk_say "STEP leave1"; try dsimp only) | fail "no step")
  all_goals first
    | k_data
    | (refine' hret _ _ _ _ _ ?qF ?qN ?qi ?qx
       (case qF => k_asm)
       (case qN => k_asm)
       (case qi => refine strs_cast (by assumption) ?_; rfl)
       (case qx => assumption))
end
end Mine.F5
end
theorem Mine.Off.t20 : True := by
  w_top off
  first | (walk1; done) | trivial
section
open Mine.Hi Mine.F4 Mine.Fc
open PySem PySem.W PyProof.Rows



namespace Mine.F6
section
variable {w : World} {p : Program} {loose : List Str} {mean : ExcName → Option Value} {mg mb : Str → Option Value}
  {dp un : Nat} {gd : Option (List Code)} {cn : Str} {cs : Scope} {a : Addr} {ccd : Value} {cl : List (Str × Addr)} {outer : List Env} {A₀ : Around} {base h₀ : Heap} {L : Addr} {m : Str → Option Value} {news : List (Addr × Obj)} {s : Shared}
    {Q E : Value → Shared → Prop}

theorem ne_low {b a : Nat} {news : List (Addr × Obj)} (h : ∀ p ∈ news, p.1 < b) (k : b ≤ a) : ∀ p ∈ news, p.1 ≠ a := fun p hp => Nat.ne_of_lt (Nat.lt_of_lt_of_le (h p hp) k)
theorem rsh_lit {prog : Program} {A : Around} {x y r : Int} {t u : Tok} {Q : Value → Shared → Prop} (e : x.fdiv (2 ^ y.toNat) = r) (hn : 0 ≤ y) (h : Q (.int r s.toks) { s with toks := s.toks + 1 }) : wpAny (model prog w) A (binaryOp .RShift (.int x t) (.int y u)) Q E s := by
  subst e; exact rshift_int hn h
theorem pow_le32 {k : Int} (h : k ≤ 5) : (0 : Int) < 2 ^ k.toNat ∧ (2 : Int) ^ k.toNat ≤ 32 := by
  have : k.toNat = 0 ∨ k.toNat = 1 ∨ k.toNat = 2 ∨ k.toNat = 3 ∨ k.toNat = 4 ∨ k.toNat = 5 := by omega
  rcases this with e | e | e | e | e | e <;> rw [e] <;> decide
theorem sh_abs {a b k : Int} (h1 : 0 ≤ a) (h2 : a ≤ 2) (h3 : 0 ≤ b) (h4 : b ≤ 2) (h : k ≤ 5) : (a * 2 ^ k.toNat + b).natAbs < 2 ^ 64 := by
  have hp := pow_le32 h
  have e : a = 0 ∨ a = 1 ∨ a = 2 := by omega
  generalize (2 : Int) ^ k.toNat = z at *
  rcases e with rfl | rfl | rfl <;> omega
theorem news_sub {h₀ h : Heap} {L : Addr} {a b : List (Addr × Obj)} (N : News h₀ L h a) (s : ∀ p ∈ b, p ∈ a) : News h₀ L h b := fun p hp => N p (s p hp)
structure Box (p : Prop) : Prop where
  out : p

noncomputable def mkOk (m : Str) : Prop := m.length = 1 ∧ 0 ≤ Txt.find (Str.ofString "&<>\"\r\n\t") m ∧ Txt.find (Str.ofString "&<>\"\r\n\t") m < 7
theorem spSz0 : ∀ d : Fin 4, ∀ j : Fin 7, Str.length (Str.ofString "&" ++ Txt.mul (Str.ofString "amp;") ((d.val : Int) - 1)) + Str.length (nameL.getD j.val Str.empty) ≤ 1000 := by decide +kernel
theorem spSz {d i : Int} (h0 : 0 ≤ d) (h1 : d ≤ 3) (g0 : 0 ≤ i) (g1 : i < 7) : Str.length (Str.ofString "&" ++ Txt.mul (Str.ofString "amp;") (d - 1)) + Str.length (nameL.getD i.toNat Str.empty) ≤ 1000 := by
  have := spSz0 ⟨d.toNat, by omega⟩ ⟨i.toNat, by omega⟩
  simp only [Int.toNat_of_nonneg h0] at this
  exact this
theorem spLen {m : Str} {d : Int} (o : mkOk m) (h0 : 0 ≤ d) (h1 : d ≤ 3) : (spF m d).length ≤ 1000 := by
  unfold spF
  split
  · rw [o.1]; decide
  · rw [Str.length_append]; exact spSz h0 h1 o.2.1 o.2.2
theorem spFit {m : Str} {d : Int} (o : mkOk m) (h0 : 0 ≤ d) (h1 : d ≤ 3) : ¬ ((spF m d).length : Int) ≥ 2 ^ 63 := by
  have := spLen o h0 h1
  omega
noncomputable def rdC (page sp : Str) : Bool := (page != Str.ofString "") && (Txt.slice page (some (-(sp.length : Int))) none == sp)
noncomputable def rdStep (sp : Str) (disc peg : Int) (r : Str × Int × List Int) : Str × Int × List Int :=
  if rdC r.1 sp = true then (Txt.slice r.1 none (some (-(sp.length : Int))), r.2.1 + 1, r.2.2.set disc.toNat peg) else r
noncomputable abbrev rdM (m : Str → Option Value) (r : Str × Int × List Int) (t1 t2 : Tok) : Str → Option Value := fun y => if y = Str.ofString "depth" then some (.int r.2.1 t1) else if y = Str.ofString "page" then some (.str r.1 t2) else m y
noncomputable def RdJ (g : Heap) (L : Addr) (s : Shared) (m : Str → Option Value) (i1 : Addr) (o1 : Obj) (i2 : Addr) (o2 : Obj) (D : Addr) (k : Nat) (news : List (Addr × Obj)) (r : Str × Int × List Int) (f : Flow) (s' : Shared) : Prop :=
  f = .next ∧ ∃ h tk t1 t2 vs, s' = { s with heap := h, toks := tk } ∧ IntsAre vs r.2.2 ∧ Fr g L h (rdM m r t1 t2) ∧ News g L h ((i1, o1) :: (i2, o2) :: (D, listOf (List.toArray vs) k) :: news)
section
variable {g : Heap} {L : Addr} {s : Shared} {m m' : Str → Option Value} {i1 i2 D : Addr} {o1 o2 : Obj} {k : Nat} {news : List (Addr × Obj)} {sp page : Str} {disc peg dep : Int} {ns : List Int} {vs : List Value} {h : Heap} {tk : Nat} {t1 t2 : Tok}
theorem rdJ_yes (F : Fr g L h (fun y => if y = Str.ofString "depth" then some (.int (dep + 1) t1) else if y = Str.ofString "page" then some (.str (Txt.slice page none (some (-(sp.length : Int)))) t2) else m y))
    (N : News g L h ((i1, o1) :: (i2, o2) :: (D, listOf (List.toArray vs) k) :: news)) (hi : IntsAre vs (ns.set disc.toNat peg)) (a1 : (page != Str.ofString "") = true) (a2 : (Txt.slice page (some (-(sp.length : Int))) none == sp) = true) :
    RdJ g L s m i1 o1 i2 o2 D k news (rdStep sp disc peg (page, dep, ns)) .next { s with heap := h, toks := tk } := by
  have e : rdStep sp disc peg (page, dep, ns) = (Txt.slice page none (some (-(sp.length : Int))), dep + 1, ns.set disc.toNat peg) := if_pos (by unfold rdC; rw [a1, a2]; rfl)
  rw [e]
  exact ⟨rfl, h, tk, t1, t2, vs, rfl, hi, F, N⟩
theorem rdJ_no (F : Fr g L h m) (N : News g L h ((i1, o1) :: (i2, o2) :: (D, listOf (List.toArray vs) k) :: news)) (hi : IntsAre vs ns) (hd : m (Str.ofString "depth") = some (.int dep t1)) (hp : m (Str.ofString "page") = some (.str page t2))
    (a : rdC page sp = false) : RdJ g L s m i1 o1 i2 o2 D k news (rdStep sp disc peg (page, dep, ns)) .next { s with heap := h, toks := tk } := by
  have e : rdStep sp disc peg (page, dep, ns) = (page, dep, ns) := if_neg (by show ¬ rdC page sp = true; rw [a]; exact Bool.false_ne_true)
  rw [e]
  refine ⟨rfl, h, tk, t1, t2, vs, rfl, hi, ?_, N⟩
  have : m = rdM m (page, dep, ns) t1 t2 := by
    funext y
    show m y = if y = Str.ofString "depth" then some (.int dep t1) else if y = Str.ofString "page" then some (.str page t2) else m y
    by_cases h1 : y = Str.ofString "depth"
    · subst h1; rw [if_pos rfl]; exact hd
    · by_cases h2 : y = Str.ofString "page"
      · subst h2; rw [if_neg h1, if_pos rfl]; exact hp
      · rw [if_neg h1, if_neg h2]
  exact this ▸ F
theorem ints_cast {vs : List Value} {ns ms : List Int} (h : IntsAre vs ns) (e : ns = ms) : IntsAre vs ms := e ▸ h
theorem rdC_1 (a1 : (page != Str.ofString "") = true) (a2 : (Txt.slice page (some (-(sp.length : Int))) none == sp) = false) : rdC page sp = false := by unfold rdC; rw [a2, Bool.and_false]
theorem rdC_2 (a1 : (page != Str.ofString "") = false) : rdC page sp = false := by unfold rdC; rw [a1, Bool.false_and]
theorem rd_cut {M : Model} {A : Around} {env : Env} {st : Stmt} {Q : Flow → Shared → Prop} {E : Value → Shared → Prop} {ts td ti te tp : Tok} (F : Fr g L s.heap m) (N : News g L s.heap ((i1, o1) :: (i2, o2) :: (D, listOf (List.toArray vs) k) :: news)) (hi : IntsAre vs ns)
    (_hp : m (Str.ofString "page") = some (.str page tp)) (_hs : m (Str.ofString "spelled") = some (.str sp ts)) (_hd : m (Str.ofString "depth") = some (.int dep td)) (_hi : m (Str.ofString "disc") = some (.int disc ti)) (_he : m (Str.ofString "peg") = some (.int peg te)) (hl : page.length ≤ 1000) (h4 : ns.length = 4)
    (step : wpAny M A (exec st env) (RdJ g L s m i1 o1 i2 o2 D k news (rdStep sp disc peg (page, dep, ns))) E s)
    (cont : ∀ pg' dep' ns' h tk t1 t2 vs, rdStep sp disc peg (page, dep, ns) = (pg', dep', ns') → pg'.length ≤ 1000 → dep ≤ dep' → dep' ≤ dep + 1 → ns'.length = 4 → IntsAre vs ns' →
      Fr g L h (fun y => if y = Str.ofString "depth" then some (.int dep' t1) else if y = Str.ofString "page" then some (.str pg' t2) else m y) → News g L h ((i1, o1) :: (i2, o2) :: (D, listOf (List.toArray vs) k) :: news) → Q .next { s with heap := h, toks := tk }) :
    wpAny M A (exec st env) Q E s := by
  refine wpAny_mono step ?_ (fun _ _ e => e)
  rintro f s' ⟨rfl, h, tk, t1, t2, vs', rfl, hi', F', N'⟩
  have hb : (rdStep sp disc peg (page, dep, ns)).1.length ≤ 1000 ∧ dep ≤ (rdStep sp disc peg (page, dep, ns)).2.1 ∧ (rdStep sp disc peg (page, dep, ns)).2.1 ≤ dep + 1 ∧ (rdStep sp disc peg (page, dep, ns)).2.2.length = 4 := by
    unfold rdStep
    split
    · exact ⟨Nat.le_trans (PyProof.Txt.length_slice_le page _ _) hl, by show dep ≤ dep + 1; omega, by show dep + 1 ≤ dep + 1; omega, by rw [List.length_set]; exact h4⟩
    · exact ⟨hl, by show dep ≤ dep; omega, by show dep ≤ dep + 1; omega, h4⟩
  revert hb hi' F'
  generalize hr : rdStep sp disc peg (page, dep, ns) = r
  obtain ⟨a, b, c⟩ := r
  intro hi' F' hb
  exact cont a b c h tk t1 t2 vs' hr hb.1 hb.2.1 hb.2.2.1 hb.2.2.2 hi' F' N'
end
noncomputable abbrev rd4 (m0 m1 m2 m3 : Str) (peg : Int) (page : Str) (ns : List Int) : Str × Int × List Int :=
  let r3 := rdStep (spF m3 0) 3 peg (page, 0, ns)
  let r2 := rdStep (spF m2 r3.2.1) 2 peg r3
  let r1 := rdStep (spF m1 r2.2.1) 1 peg r2
  rdStep (spF m0 r1.2.1) 0 peg r1
noncomputable def readF (m0 m1 m2 m3 p0 p1 p2 : Str) : List Int :=
  let r0 := rd4 m0 m1 m2 m3 (0 + ((0 : Nat) : Int)) p0 [3, 3, 3, 3]
  if (r0.1 != Str.ofString "") = true then [] else
  let r1 := rd4 m0 m1 m2 m3 (0 + ((0 + 1 : Nat) : Int)) p1 r0.2.2
  if (r1.1 != Str.ofString "") = true then [] else
  let r2 := rd4 m0 m1 m2 m3 (0 + ((0 + 1 + 1 : Nat) : Int)) p2 r1.2.2
  if (r2.1 != Str.ofString "") = true then [] else r2.2.2
theorem ints_set {x : Int} {u : Tok} : ∀ {vs : List Value} {ns : List Int}, IntsAre vs ns → ∀ j : Nat, IntsAre (vs.set j (.int x u)) (ns.set j x)
  | _, _, .nil, _ => .nil
  | _, _, .cons _ _ h, 0 => .cons x u h
  | _, _, .cons i t h, j + 1 => .cons i t (ints_set h j)
theorem iset {prog : Program} {A : Around} {D : Addr} {news' : List (Addr × Obj)} {vs : List Value} {ws : List Int} {n : Nat} {k x : Int} {t u : Tok} {Q : Unit → Shared → Prop} (F : Fr h₀ L s.heap m) (N : News h₀ L s.heap news) (U : Upd D (listOf vs.toArray n) (listOf (vs.set k.toNat (.int x u)).toArray n) news news') (hi : IntsAre vs ws) (h0 : 0 ≤ k) (h1 : k < 4) (hw : ws.length = 4)
    (h : ∀ h', Fr h₀ L h' m → News h₀ L h' news' → IntsAre (vs.set k.toNat (.int x u)) (ws.set k.toNat x) → Q () { s with heap := h' }) :
    wpAny (model prog w) A (setItem (.ref D) (.int k t) (.int x u)) Q E s := by
  obtain ⟨pre, post, rfl, rfl, a, b⟩ := U.split
  have z := N (D, listOf vs.toArray n) (List.mem_append.mpr (.inr (.head _)))
  have hl : vs.length = ws.length := hi.length
  have hs : vs.toArray.size = ws.length := by rw [List.size_toArray]; exact hl
  refine ki_setAt z.1 h0 (by omega) (by omega) (h _ (F.change (Heap.SameBut.update ..) z.2.1 z.2.2) (ki_turn _ N a b ?_ ?_) (ints_set hi _))
  · show vs.toArray.setIfInBounds k.toNat (.int x u) = (vs.set k.toNat (.int x u)).toArray
    apply Array.toList_inj.mp
    simp
  · simp
noncomputable def rdI (ms : List Str) (peg : Int) (page : Str) (ns : List Int) : Nat → Str × Int × List Int
  | 0 => (page, 0, ns)
  | i + 1 => rdStep (spF (ms.getD (3 - i) Str.empty) (rdI ms peg page ns i).2.1) ((3 - i : Nat) : Int) peg (rdI ms peg page ns i)
theorem rdI_4 {m0 m1 m2 m3 page : Str} {peg : Int} {ns : List Int} : rdI [m0, m1, m2, m3] peg page ns 4 = rd4 m0 m1 m2 m3 peg page ns := rfl
theorem rdStep_b {sp : Str} {disc peg : Int} {r : Str × Int × List Int} : (rdStep sp disc peg r).1.length ≤ r.1.length ∧ r.2.1 ≤ (rdStep sp disc peg r).2.1 ∧ (rdStep sp disc peg r).2.1 ≤ r.2.1 + 1 ∧ (rdStep sp disc peg r).2.2.length = r.2.2.length := by
  unfold rdStep
  split
  · exact ⟨PyProof.Txt.length_slice_le _ _ _, by show r.2.1 ≤ r.2.1 + 1; omega, by show r.2.1 + 1 ≤ r.2.1 + 1; omega, List.length_set ..⟩
  · exact ⟨Nat.le_refl _, by omega, by omega, rfl⟩
theorem rdI_b {ms : List Str} {peg : Int} {page : Str} {ns : List Int} (h1 : page.length ≤ 1000) (h2 : ns.length = 4) : ∀ i : Nat, (rdI ms peg page ns i).1.length ≤ 1000 ∧ 0 ≤ (rdI ms peg page ns i).2.1 ∧ (rdI ms peg page ns i).2.1 ≤ (i : Int) ∧ (rdI ms peg page ns i).2.2.length = 4
  | 0 => ⟨h1, by show (0 : Int) ≤ 0; omega, by show (0 : Int) ≤ 0; omega, h2⟩
  | i + 1 => by
    obtain ⟨a, b, c, d⟩ := rdI_b h1 h2 (ms := ms) (peg := peg) i
    obtain ⟨e, f, g, k⟩ := rdStep_b (sp := spF (ms.getD (3 - i) Str.empty) (rdI ms peg page ns i).2.1) (disc := ((3 - i : Nat) : Int)) (peg := peg) (r := rdI ms peg page ns i)
    unfold rdI
    exact ⟨Nat.le_trans e a, by omega, by omega, k.trans d⟩
noncomputable abbrev rdF (m : Str → Option Value) (r : Str × Int × List Int) (t1 t2 : Tok) (u1 u2 : Option Value) : Str → Option Value := fun y => if y = Str.ofString "depth" then some (.int r.2.1 t1) else if y = Str.ofString "page" then some (.str r.1 t2) else if y = Str.ofString "spelled" then u1 else if y = Str.ofString "disc" then u2 else m y
noncomputable abbrev rdG (m : Str → Option Value) (peg : Int) (te : Tok) (D lm : Addr) : Str → Option Value := fun y => if y = Str.ofString "peg" then some (.int peg te) else if y = Str.ofString "pegs" then some (.ref D) else if y = Str.ofString "marks" then some (.ref lm) else m y
noncomputable def RdInv (m : Str → Option Value) (i1 : Addr) (o1 : Obj) (D : Addr) (k : Nat) (news : List (Addr × Obj)) (ms : List Str) (peg : Int) (page : Str) (ns : List Int) (i : Nat) (m' : Str → Option Value) (rest : List (Addr × Obj)) : Prop :=
  ∃ t1 t2 u1 u2 vs, m' = rdF m (rdI ms peg page ns i) t1 t2 u1 u2 ∧ rest = (i1, o1) :: (D, listOf (List.toArray vs) k) :: news ∧ IntsAre vs (rdI ms peg page ns i).2.2
/-- what the inner loop does, whatever the outer one is at -/
noncomputable def RdSpec (prog : Program) (w : World) (A : Around) (env : Env) (g : Heap) (L : Addr) (news : List (Addr × Obj)) (lm : Addr) (ms : List Str) (st : Stmt) : Prop :=
  ∀ (s : Shared) (m : Str → Option Value) (i1 D : Addr) (o1 : Obj) (k : Nat) (vs : List Value) (ns : List Int) (page : Str) (peg : Int) (tp td te : Tok) (Q : Flow → Shared → Prop) (E : Value → Shared → Prop), PassesOwn (model prog w) A env E →
    Fr g L s.heap (fun y => if y = Str.ofString "depth" then some (.int 0 td) else if y = Str.ofString "page" then some (.str page tp) else rdG m peg te D lm y) → News g L s.heap ((i1, o1) :: (D, listOf (List.toArray vs) k) :: news) → @Ne Nat i1 D → (∀ p ∈ news, p.1 < D) → (∀ p ∈ news, p.1 < i1) → IntsAre vs ns → ns.length = 4 → page.length ≤ 1000 →
    (∀ h tk t1 t2 u1 u2 vs', IntsAre vs' (rdI ms peg page ns 4).2.2 → Fr g L h (rdF (rdG m peg te D lm) (rdI ms peg page ns 4) t1 t2 u1 u2) → News g L h ((i1, o1) :: (D, listOf (List.toArray vs') k) :: news) → Q .next { s with heap := h, toks := tk }) →
    wpAny (model prog w) A (exec st env) Q E s
theorem rdInv0 {m m' : Str → Option Value} {i1 D : Addr} {o1 : Obj} {k : Nat} {ms : List Str} {peg : Int} {page : Str} {ns : List Int} {vs : List Value} {td tp : Tok} {rest : List (Addr × Obj)} (hm : m' = fun y => if y = Str.ofString "depth" then some (.int 0 td) else if y = Str.ofString "page" then some (.str page tp) else m y) (hr : rest = (i1, o1) :: (D, listOf (List.toArray vs) k) :: news) (hi : IntsAre vs ns) : RdInv m i1 o1 D k news ms peg page ns 0 m' rest := by
  refine ⟨td, tp, m (Str.ofString "spelled"), m (Str.ofString "disc"), vs, ?_, hr, hi⟩
  rw [hm]
  funext y
  show (if y = Str.ofString "depth" then some (Value.int 0 td) else if y = Str.ofString "page" then some (Value.str page tp) else m y) = if y = Str.ofString "depth" then some (Value.int 0 td) else if y = Str.ofString "page" then some (Value.str page tp) else if y = Str.ofString "spelled" then m (Str.ofString "spelled") else if y = Str.ofString "disc" then m (Str.ofString "disc") else m y
  by_cases h1 : y = Str.ofString "spelled"
  · subst h1; rfl
  · by_cases h2 : y = Str.ofString "disc"
    · subst h2; rfl
    · rw [if_neg h1, if_neg h2]
theorem rdEnd {g h : Heap} {L I i1 D : Addr} {o1 oI : Obj} {k tk i : Nat} {m mm : Str → Option Value} {ms : List Str} {peg dep' dd : Int} {page pg' sp : Str} {ns ns' : List Int} {vs : List Value} {t1 t2 s1 s2 : Tok} {u1 u2 us ud : Option Value} {Q : Flow → Shared → Prop}
    (F : Fr g L h mm) (N : News g L h ((I, oI) :: (i1, o1) :: (D, listOf (List.toArray vs) k) :: news)) (hm : mm = fun y => if y = Str.ofString "depth" then some (.int dep' s1) else if y = Str.ofString "page" then some (.str pg' s2) else if y = Str.ofString "spelled" then us else if y = Str.ofString "disc" then ud else rdF m (rdI ms peg page ns i) t1 t2 u1 u2 y)
    (e : rdStep sp dd peg (rdI ms peg page ns i) = (pg', dep', ns')) (hsp : spF (ms.getD dd.toNat Str.empty) (rdI ms peg page ns i).2.1 = sp) (hd : 3 - i = dd.toNat) (hd0 : 0 ≤ dd) (hi : IntsAre vs ns') (n1 : @Ne Nat i1 I) (n2 : @Ne Nat D I) (n3 : ∀ p ∈ news, p.1 ≠ I) :
    ForJ (fun s₃ => ∃ h₃ tk₃ m₃ rest₃, s₃ = { s with heap := h₃, toks := tk₃ } ∧ Fr g L h₃ m₃ ∧ News g L h₃ ((I, oI) :: rest₃) ∧ (∀ p ∈ rest₃, p.1 ≠ I) ∧ RdInv m i1 o1 D k news ms peg page ns (i + 1) m₃ rest₃) Q .next { s with heap := h, toks := tk } := by
  have er : rdI ms peg page ns (i + 1) = (pg', dep', ns') := by
    unfold rdI
    rw [hd, hsp, show ((dd.toNat : Nat) : Int) = dd by omega]
    exact e
  refine ⟨h, tk, mm, _, rfl, F, N, (fun p hp => ?_), s1, s2, us, ud, vs, ?_, rfl, by rw [er]; exact hi⟩
  · rcases List.mem_cons.mp hp with rfl | hp
    · exact n1
    · rcases List.mem_cons.mp hp with rfl | hp
      · exact n2
      · exact n3 p hp
  rw [hm, er]
  funext y
  by_cases q1 : y = Str.ofString "depth"
  · subst q1; rfl
  by_cases q2 : y = Str.ofString "page"
  · subst q2; rfl
  by_cases q3 : y = Str.ofString "spelled"
  · subst q3; rfl
  by_cases q4 : y = Str.ofString "disc"
  · subst q4; rfl
  simp only [if_neg q1, if_neg q2, if_neg q3, if_neg q4]
theorem rd_use {prog : Program} {w : World} {A : Around} {env : Env} {g : Heap} {L i1 D lm : Addr} {news : List (Addr × Obj)} {ms : List Str} {st : Stmt} {s : Shared} {m : Str → Option Value} {o1 : Obj} {k : Nat} {vs : List Value} {ns : List Int} {page : Str} {peg : Int} {tp td te : Tok} {Q : Flow → Shared → Prop} {E : Value → Shared → Prop} (H : RdSpec prog w A env g L news lm ms st) (hE : PassesOwn (model prog w) A env E)
    (F : Fr g L s.heap m) (N : News g L s.heap ((i1, o1) :: (D, listOf (List.toArray vs) k) :: news)) (d1 : m (Str.ofString "depth") = some (.int 0 td)) (d2 : m (Str.ofString "page") = some (.str page tp)) (d3 : m (Str.ofString "peg") = some (.int peg te)) (d4 : m (Str.ofString "pegs") = some (.ref D)) (d5 : m (Str.ofString "marks") = some (.ref lm))
    (ne : @Ne Nat i1 D) (lo1 : ∀ p ∈ news, p.1 < D) (lo2 : ∀ p ∈ news, p.1 < i1) (hi : IntsAre vs ns) (hn : ns.length = 4) (hp : page.length ≤ 1000)
    (h : ∀ h tk t1 t2 u1 u2 vs' pg' dep' ns', rdI ms peg page ns 4 = (pg', dep', ns') → IntsAre vs' ns' → ns'.length = 4 → Fr g L h (fun y => if y = Str.ofString "depth" then some (.int dep' t1) else if y = Str.ofString "page" then some (.str pg' t2) else if y = Str.ofString "spelled" then u1 else if y = Str.ofString "disc" then u2 else m y) → News g L h ((i1, o1) :: (D, listOf (List.toArray vs') k) :: news) → Q .next { s with heap := h, toks := tk }) :
    wpAny (model prog w) A (exec st env) Q E s := by
  have e0 : rdG m peg te D lm = m := by
    funext y
    show (if y = Str.ofString "peg" then some (Value.int peg te) else if y = Str.ofString "pegs" then some (Value.ref D) else if y = Str.ofString "marks" then some (Value.ref lm) else m y) = m y
    by_cases h1 : y = Str.ofString "peg"
    · subst h1; rw [if_pos rfl]; exact d3.symm
    by_cases h2 : y = Str.ofString "pegs"
    · subst h2; rw [if_neg h1, if_pos rfl]; exact d4.symm
    by_cases h3 : y = Str.ofString "marks"
    · subst h3; rw [if_neg h1, if_neg h2, if_pos rfl]; exact d5.symm
    rw [if_neg h1, if_neg h2, if_neg h3]
  have e1 : m = fun y => if y = Str.ofString "depth" then some (.int 0 td) else if y = Str.ofString "page" then some (.str page tp) else rdG m peg te D lm y := by
    rw [e0]
    funext y
    by_cases h1 : y = Str.ofString "depth"
    · subst h1; rw [if_pos rfl]; exact d1
    by_cases h2 : y = Str.ofString "page"
    · subst h2; rw [if_neg h1, if_pos rfl]; exact d2
    rw [if_neg h1, if_neg h2]
  refine H s m i1 D o1 k vs ns page peg tp td te Q E hE (e1 ▸ F) N ne lo1 lo2 hi hn hp fun h' tk t1 t2 u1 u2 vs' hi' F' N' => ?_
  rw [e0] at F'
  have hb := (rdI_b hp hn (ms := ms) (peg := peg) 4).2.2.2
  revert hb hi' F'
  generalize hr : rdI ms peg page ns 4 = r
  obtain ⟨a, b, c⟩ := r
  intro hi' F' hb
  exact h h' tk t1 t2 u1 u2 vs' a b c hr hi' hb F' N'
theorem mk_getD {m0 m1 m2 m3 : Str} (o0 : mkOk m0) (o1 : mkOk m1) (o2 : mkOk m2) (o3 : mkOk m3) {n : Nat} (h : n < 4) : mkOk ([m0, m1, m2, m3].getD n Str.empty) := by
  have : n = 0 ∨ n = 1 ∨ n = 2 ∨ n = 3 := by omega
  rcases this with rfl | rfl | rfl | rfl
  · exact o0
  · exact o1
  · exact o2
  · exact o3
theorem outer_with {M : Model} {A : Around} {env : Env} {t it : PySem.Expr} {b1 b2 b3 b4 : Stmt} {pos : Pos} {Q : Flow → Shared → Prop} {E : Value → Shared → Prop} {P : Around → Env → Stmt → Prop} (H : P A env b3) (rest : P A env b3 → wpAny M A (exec (.For t it [b1, b2, b3, b4] [] pos) env) Q E s) : wpAny M A (exec (.For t it [b1, b2, b3, b4] [] pos) env) Q E s := rest H
theorem unr1 {h₀ : Heap} {L I a B : Addr} {it o : Obj} {rest : (Str → Option Value) → List (Addr × Obj) → Prop} {s₁ : Shared} {h' : Heap} {tk : Nat} {m' : Str → Option Value} {all news : List (Addr × Obj)} (hl : ∀ p ∈ news, p.1 < B) (F : Fr h₀ L h' m') (N : News h₀ L h' all)
    (hI : (I, it) ∈ all) (hq : (a, o) ∈ all) (hs : ∀ p ∈ news, p ∈ all) (hB : @LE.le Nat _ B I) (hne : @Ne Nat a I) (r : rest m' ((a, o) :: news)) : UnrEnd h₀ L s₁ I it rest { s₁ with heap := h', toks := tk } :=
  UnrEnd.intro F N ((a, o) :: news) (fun p hp => by
    rcases List.mem_cons.mp hp with rfl | hp
    · exact hI
    · rcases List.mem_cons.mp hp with rfl | hp
      · exact hq
      · exact hs p hp) (fun p hp => by
    rcases List.mem_cons.mp hp with rfl | hp
    · exact hne
    · exact Nat.ne_of_lt (Nat.lt_of_lt_of_le (hl p hp) hB)) r
theorem unr2 {h₀ : Heap} {L I a b B : Addr} {it o q : Obj} {rest : (Str → Option Value) → List (Addr × Obj) → Prop} {s₁ : Shared} {h' : Heap} {tk : Nat} {m' : Str → Option Value} {news : List (Addr × Obj)} (hl : ∀ p ∈ news, p.1 < B) (F : Fr h₀ L h' m') (N : News h₀ L h' ((I, it) :: (a, o) :: (b, q) :: news))
    (hB : @LE.le Nat _ B I) (hne : @Ne Nat a I) (hne2 : @Ne Nat b I) (r : rest m' ((a, o) :: (b, q) :: news)) : UnrEnd h₀ L s₁ I it rest { s₁ with heap := h', toks := tk } :=
  UnrEnd.intro F N ((a, o) :: (b, q) :: news) (fun p hp => hp) (fun p hp => by
    rcases List.mem_cons.mp hp with rfl | hp
    · exact hne
    · rcases List.mem_cons.mp hp with rfl | hp
      · exact hne2
      · exact Nat.ne_of_lt (Nat.lt_of_lt_of_le (hl p hp) hB)) r
section
theorem read_call {p0 p1 p2 m0 m1 m2 m3 : Str} {lp lm : Addr} {u0 u1 u2 v0 v1 v2 v3 : Tok} {k1 k2 : Nat}
    (B : Below A₀ base outer h₀) (F : Fr h₀ L s.heap m) (X : (hd.heap_39 w.params).In h₀) (N : News h₀ L s.heap news) (T : Top p loose mean mg mb h₀) (hk : cs.kind = .function)
    (hd : dp + 3 < recursionLimit) (hu : un + 24 < cLine) (hl : (lp, listOf #[.str p0 u0, .str p1 u1, .str p2 u2] k1) ∈ news) (hl2 : (lm, listOf #[.str m0 v0, .str m1 v1, .str m2 v2, .str m3 v3] k2) ∈ news)
    (o0 : mkOk m0) (o1 : mkOk m1) (o2 : mkOk m2) (o3 : mkOk m3) (hp0 : p0.length ≤ 1000) (hp1 : p1.length ≤ 1000) (hp2 : p2.length ≤ 1000)
    (hret : ∀ D vs k h' tk', Fr h₀ L h' m → News h₀ L h' ((D, listOf (List.toArray vs) k) :: news) → IntsAre vs (readF m0 m1 m2 m3 p0 p1 p2) → (∀ p ∈ news, p.1 < D) → Q (.ref D) { s with heap := h', toks := tk' }) :
    wpAny (model PySem.Challenge.rw_rw0037_01.row.prog w) (ktrTop dp un gd cn cs L a ccd cl outer) (call (.ref 84) [.ref lp, .ref lm]) Q E s := by
  k_with_none
  k_with "execs cons" => (first | (k_here; k_gentoks) | (k_here; k_made) | ((with_reducible refine Mine.Hi.ex_hid ?_); intro qH'Q hH'Q; (try dsimp only)))
  k_with "is_list" => (exact News.isList (by k_asm) (by k_mem))
  k_with "k_mem" => (assumption)
  k_with "k_all" => (first | assumption | (refine ne_low (by assumption) ?_; omega))
  k_with "binaryOp RShift int int" => (first | (refine rsh_lit (r := 1) (by decide) (by decide) ?_) | (refine rsh_lit (r := 2) (by decide) (by decide) ?_) | (refine rsh_lit (r := 3) (by decide) (by decide) ?_))
  k_with "call ref" => (((with_reducible show wpAny _ _ (call (Value.ref 77) _) _ _ _); k_dflt (refine' spelled_call ?zBK ?zFK ?zXK ?zNK ?zTK ?zkK ?zdK ?zuK ?z1K ?z2K ?z3K ?z4K ?z5K ?z6K ?_; (case zBK => k_asm); (case zFK => k_asm); (case zXK => k_asm); (case zNK => k_asm); (case zTK => k_asm); (case zkK => first | exact rfl | assumption); (case zdK => ktr_room); (case zuK => ktr_units); (case z1K => exact (by assumption : mkOk _).1); (case z2K => omega); (case z3K => omega); (case z4K => exact (by assumption : mkOk _).2.1); (case z5K => exact (by assumption : mkOk _).2.2); (case z6K => exact spSz (by omega) (by omega) (by assumption : mkOk _).2.1 (by assumption : mkOk _).2.2); k_whole); intro t'Q h'Q tk'Q F'Q N'Q; (try k_sweep); (try dsimp only); (try k_fold)))
  k_with "call builtin:len" => (((with_reducible show wpAny _ _ (call (Value.builtin "len") [Value.str _ _]) _ _ _); k_dflt (refine PySem.P.len_str (spFit (by assumption) (by omega) (by omega)) ?_)))
  k_with "UnrEnd" => (((with_unfolding_all (refine' unr1 ?hlK ?FK ?NK ?IK ?qK ?sK ?BK ?neK ?_; (case hlK => assumption); (case FK => k_asm); (case NK => k_asm))); (k_dflt ((case IK => exact List.Mem.head _); (case qK => exact List.Mem.tail _ (List.Mem.head _)); (case sK => exact fun p hp => List.Mem.tail _ (List.Mem.tail _ hp)); (case BK => omega); (case neK => omega)))))
  k_with "UnrEnd" => (((with_unfolding_all (refine' unr2 ?hlK ?FK ?NK ?BK ?neK ?nfK ?_; (case hlK => assumption); (case FK => k_asm); (case NK => k_asm))); (k_dflt ((case BK => omega); (case neK => omega); (case nfK => omega)))))
  k_with "RdJ" => ((k_dflt (refine' rdJ_no ?jFK ?jNK ?jiK ?jdK ?jpK ?jaK; (case jFK => k_asm); (case jNK => k_asm); (case jiK => first | assumption | l_ints); (case jdK => exact rfl); (case jpK => exact rfl); (case jaK => first | exact rdC_1 (by assumption) (by assumption) | exact rdC_2 (by assumption)))))
  k_with "RdJ" => ((k_dflt (refine' rdJ_yes ?jFK ?jNK ?jiK ?jaK ?jbK; (case jFK => k_asm); (case jNK => k_asm); (case jiK => first | assumption | exact ints_cast (by repeat constructor) rfl); (case jaK => assumption); (case jbK => assumption))))
  k_with "exec If" => ((k_here; (with_reducible show wpAny _ _ (exec (Stmt.If (Expr.BoolOp _ _ _) _ _ _) _) _ _ _); (fail_if_success (with_reducible show wpAny _ _ _ (RdJ _ _ _ _ _ _ _ _ _ _ _ _) _ _)); k_dflt (refine' rd_cut ?cFK ?cNK ?ciK ?c1K ?c2K ?c3K ?c4K ?c5K ?c6K ?c7K ?_ ?_; (case cFK => k_asm); (case cNK => k_asm); (case ciK => first | assumption | l_ints); (case c1K => exact rfl); (case c2K => exact rfl); (case c3K => exact rfl); (case c4K => exact rfl); (case c5K => exact rfl); (case c6K => assumption); (case c7K => first | assumption | exact rfl)); rotate_left; intro _ _ _ h'Q tk'Q _ _ _ _ _ _ _ _ _ F'Q N'Q; (try k_sweep); (try dsimp only); (try k_fold); rotate_right))
  k_with "subscriptTail Name Name ref int" => ((k_here; k_dflt (refine' KTb.item_list ?aK ?bK ?cK ?dK ?eK ?_; (case aK => exact News.isList (by k_asm) (by k_mem)); (case bK => exact .cons _ _ (.cons _ _ (.cons _ _ (.cons _ _ .nil)))); (case cK => assumption); (case dK => assumption); (case eK => omega)); intro _ _))
  k_with "setItem ref int" => ((k_here; k_dflt (refine' iset ?k1K ?k2K ?k3K ?k4K ?k5K ?k6K ?k7K ?_; (case k1K => k_asm); (case k2K => k_asm); (case k3K => k_upd); (case k4K => assumption); (case k5K => assumption); (case k6K => assumption); (case k7K => assumption); k_whole); intro h'Q F'Q N'Q hi'Q; (try k_sweep)))
  k_with "exec For Name Call cons nil" => ((k_here; (with_reducible show wpAny _ _ (exec (Stmt.For (Expr.Name (Str.ofString "disc") _) _ _ _ _) _) _ _ _); k_dflt (refine' rd_use ?cHK ?cEK ?cFK ?cNK ?d1K ?d2K ?d3K ?d4K ?d5K ?neK ?l1K ?l2K ?ciK ?cnK ?cpK ?_; (case cHK => assumption); (case cEK => first | passes_own | with_unfolding_all passes_own); (case cFK => k_asm); (case cNK => k_asm); (case d1K => exact rfl); (case d2K => exact rfl); (case d3K => exact rfl); (case d4K => exact rfl); (case d5K => exact rfl); (case neK => omega); (case l1K => assumption); (case l2K => first | assumption | exact fun p hp => Nat.lt_trans ((by assumption : ∀ p ∈ news, p.1 < _) p hp) (ltN (by omega))); (case ciK => first | assumption | l_ints); (case cnK => first | assumption | exact rfl); (case cpK => assumption)); intro h'Q tk'Q _ _ _ _ _ _ _ _ _ _ _ F'Q N'Q; (try k_sweep); (try dsimp only); (try k_fold)))
  revert X
  have hx : PySem.Challenge.rw_rw0037_01 = PySem.Challenge.rw_rw0037_01 := rfl
  revert hx
  k_fill
  intro hx X
  refine wpAny_call ?_
  k_dflt (refine' code_def ?k1 ?k2 ?k3 ?k4 ?k5 ?kA ?kF ?kK ?k6 ?k7 ?k8 ?k9 ?kB ?_ ?c2 ?c3 ?c4 ?c5; (case kA => exact rfl); (case kF => exact rfl); (case kK => assumption); (case k1 => k_asm); (case k2 => k_asm); (case k3 => k_asm); (case k4 => k_asm); (case k5 => k_asm); (case k6 => k_is); (case k7 => k_is); (case k8 => ktr_room); (case k9 => exact BindsTo.of_eq rfl); (case c5 => decide); (case kB => exact locs rfl); (case c2 => exact rfl); (case c3 => exact rfl); (case c4 => exact rfl); k_whole; intro g' L' h' FG' F' N' B' X' T'; (try dsimp only); (try k_fold))
  repeat' ((fail_if_success (with_reducible show wpAny _ _ (exec (Stmt.For _ _ _ _ _) _) _ _ _)); first | (((fail_if_success (with_reducible show wpAny _ _ _ _ _ _)); first | (refine Mine.Hi.HidV.out (by with_reducible assumption) _ _ ?_) | (refine Mine.Hi.Hid.nxt (by with_reducible assumption) _ ?_) | (refine Mine.Hi.Hid.oth (by with_reducible assumption) _ _ (fun h => nomatch h) ?_)); (try dsimp only)) | (k_unfold; (try dsimp only)) | ((with_reducible show wpAny _ _ (evalPart _ _) _ _ _); walk1) | ((with_reducible show wpAny _ _ (subscriptTail _ _ _ _) _ _ _); walk1) | (walk1 <;> (try ((fail_if_success (with_reducible show wpAny _ _ (subscriptTail _ _ _ _) _ _ _)); dsimp only))) | (dsimp only; walk1 <;> (try ((fail_if_success (with_reducible show wpAny _ _ (subscriptTail _ _ _ _) _ _ _)); dsimp only))))
  refine outer_with (P := fun A' env' st' => RdSpec PySem.Challenge.rw_rw0037_01.row.prog w A' env' g' L' news lm [m0, m1, m2, m3] st') ?spec ?_
  case spec =>
    intro s m i1 D ob k vs ns page peg tp td te Q E hE F N hne lo1 lo2 hi hn hp hret
    refine forc ?_ (by intro _; rfl)
    repeat' ((fail_if_success (with_reducible show wpAny _ _ (pyIter _) _ _ _)); first | (((fail_if_success (with_reducible show wpAny _ _ _ _ _ _)); first | (refine Mine.Hi.HidV.out (by with_reducible assumption) _ _ ?_) | (refine Mine.Hi.Hid.nxt (by with_reducible assumption) _ ?_) | (refine Mine.Hi.Hid.oth (by with_reducible assumption) _ _ (fun h => nomatch h) ?_)); (try dsimp only)) | (k_unfold; (try dsimp only)) | ((with_reducible show wpAny _ _ (evalPart _ _) _ _ _); walk1) | ((with_reducible show wpAny _ _ (subscriptTail _ _ _ _) _ _ _); walk1) | (walk1 <;> (try ((fail_if_success (with_reducible show wpAny _ _ (subscriptTail _ _ _ _) _ _ _)); dsimp only))) | (dsimp only; walk1 <;> (try ((fail_if_success (with_reducible show wpAny _ _ (subscriptTail _ _ _ _) _ _ _)); dsimp only))))
    k_dflt (refine' forc_iter (n := 4) ?r ?s ?n ?F ?N ?_; (case r => assumption); (case s => first | decide | rfl); (case n => first | decide | rfl); (case F => k_asm); (case N => k_asm))
    intro I h1' F1 N1 lI
    (try k_sweep)
    refine' forc_ind (L := L') (n := 4) (RdInv (rdG m peg te D lm) i1 ob D k news [m0, m1, m2, m3] peg page ns) ?hE ?hh rfl ?zF ?zN ?zo ?zi ?turn ?fin
    case zF => exact F1
    case zN => exact N1
    case hE => exact hE
    case hh => rfl
    case zo => exact fun p hp => Nat.ne_of_lt (lI p hp)
    case zi => exact rdInv0 rfl rfl hi
    case fin =>
      intro m3' rest3 h3 tk3 hHid F3 N3
      refine Mine.Hi.hideG (fun G hG => ?_)
      obtain ⟨t1, t2, u1, u2, vs', eH1, eH2, iv⟩ := hHid
      refine hG ?_
      clear hG
      subst eH1 eH2
      exact hret h3 tk3 t1 t2 u1 u2 vs' iv F3 N3
    case turn =>
      intro i m3' rest3 h3 t3 tk3 hi4 hHid off F3 N3
      refine Mine.Hi.hideG (fun G hG => ?_)
      obtain ⟨t1, t2, u1, u2, vs', eH1, eH2, iv⟩ := hHid
      refine hG ?_
      clear hG
      subst eH1 eH2
      refine Mine.Hi.hideG (fun G hG => ?_)
      obtain ⟨rb1, rb2, rb3, rb4⟩ := rdI_b hp hn (ms := [m0, m1, m2, m3]) (peg := peg) i
      refine hG ?_
      clear hG
      have nI1 : @Ne Nat i1 I := off _ (.head _)
      have nID : @Ne Nat D I := off _ (.tail _ (.head _))
      generalize hdd : (3 + (i : Int) * -1 : Int) = dd at *
      have hd0 : 0 ≤ dd := by omega
      have hd4 : dd < 4 := by omega
      have hdn : 3 - i = dd.toNat := by omega
      have hmk : mkOk ([m0, m1, m2, m3].getD dd.toNat Str.empty) := mk_getD o0 o1 o2 o3 (by omega)
      (try dsimp only)
      (try k_fold)
      walk1
      (try dsimp only)
      (refine Mine.Hi.post_hid ?_; intro qT hT)
      repeat' (first | (((fail_if_success (with_reducible show wpAny _ _ _ _ _ _)); first | (refine Mine.Hi.HidV.out (by with_reducible assumption) _ _ ?_) | (refine Mine.Hi.Hid.nxt (by with_reducible assumption) _ ?_) | (refine Mine.Hi.Hid.oth (by with_reducible assumption) _ _ (fun h => nomatch h) ?_)); (try dsimp only)) | (k_unfold; (try dsimp only)) | ((with_reducible show wpAny _ _ (PySem.evalPart _ _) _ _ _); walk1) | ((with_reducible show wpAny _ _ (PyProof.Rows.subscriptTail _ _ _ _) _ _ _); walk1) | (walk1 <;> (try ((fail_if_success (with_reducible show wpAny _ _ (PyProof.Rows.subscriptTail _ _ _ _) _ _ _)); dsimp only))) | (dsimp only; walk1 <;> (try ((fail_if_success (with_reducible show wpAny _ _ (PyProof.Rows.subscriptTail _ _ _ _) _ _ _)); dsimp only))))
      refine' rdEnd ?eF ?eN rfl ?ee rfl hdn hd0 ?ei nI1 nID (fun p hp => off p (.tail _ (.tail _ hp)))
      case eF => k_asm
      case eN => k_asm
      case ee => assumption
      case ei => assumption
  intro HS
  repeat' (first | (((fail_if_success (with_reducible show wpAny _ _ _ _ _ _)); first | (refine Mine.Hi.HidV.out (by with_reducible assumption) _ _ ?_) | (refine Mine.Hi.Hid.nxt (by with_reducible assumption) _ ?_) | (refine Mine.Hi.Hid.oth (by with_reducible assumption) _ _ (fun h => nomatch h) ?_)); (try dsimp only)) | (k_unfold; (try dsimp only)) | (k_end; wrow_close) | ((with_reducible show wpAny _ _ (PySem.evalPart _ _) _ _ _); walk1) | ((with_reducible show wpAny _ _ (PyProof.Rows.subscriptTail _ _ _ _) _ _ _); walk1) | (walk1 <;> (try ((fail_if_success (with_reducible show wpAny _ _ (PyProof.Rows.subscriptTail _ _ _ _) _ _ _)); dsimp only))) | (dsimp only; walk1 <;> (try ((fail_if_success (with_reducible show wpAny _ _ (PyProof.Rows.subscriptTail _ _ _ _) _ _ _)); dsimp only))) | (leave1; walk_say "STEP leave1"; try dsimp only) | fail "no step")
  all_goals (try k_data)
  all_goals (try (dsimp only [qk]))
  all_goals (try repeat' (first | (((fail_if_success (with_reducible show wpAny _ _ _ _ _ _)); first | (refine Mine.Hi.HidV.out (by with_reducible assumption) _ _ ?_) | (refine Mine.Hi.Hid.nxt (by with_reducible assumption) _ ?_) | (refine Mine.Hi.Hid.oth (by with_reducible assumption) _ _ (fun h => nomatch h) ?_)); (try dsimp only)) | (k_unfold; (try dsimp only)) | (k_end; wrow_close) | ((with_reducible show wpAny _ _ (PySem.evalPart _ _) _ _ _); walk1) | ((with_reducible show wpAny _ _ (PyProof.Rows.subscriptTail _ _ _ _) _ _ _); walk1) | (walk1 <;> (try ((fail_if_success (with_reducible show wpAny _ _ (PyProof.Rows.subscriptTail _ _ _ _) _ _ _)); dsimp only))) | (dsimp only; walk1 <;> (try ((fail_if_success (with_reducible show wpAny _ _ (PyProof.Rows.subscriptTail _ _ _ _) _ _ _)); dsimp only))) | (leave1; walk_say "STEP leave1"; try dsimp only) | fail "no step"))
  all_goals (try k_data)
  all_goals (refine' hret _ _ _ _ _ ?qF ?qN ?qi ?qx; (case qF => k_asm); (case qN => first | k_asm | exact news_sub (by k_asm) (List.forall_mem_cons.mpr ⟨List.Mem.head _, fun p hp => by repeat (first | exact hp | apply List.Mem.tail)⟩)); (case qx => first | assumption | exact fun p hp => Nat.lt_trans ((by assumption : ∀ p ∈ news, p.1 < _) p hp) (ltN (by omega))); (case qi => first | (refine ints_cast (by assumption) ?_; simp only [readF, ← rdI_4, *, if_true, if_false, Bool.false_eq_true]) | (refine ints_cast .nil ?_; simp only [readF, ← rdI_4, *, if_true, if_false, Bool.false_eq_true]) | skip))
end
end
end Mine.F6
end
theorem Mine.Off.t21 : True := by
  w_top off
  first | (walk1; done) | trivial
section
open Mine.Hi Mine.Ways0 Mine.Fc
open PySem PySem.W PyProof.Rows PySem.Calls PyProof.V PySem.Spec



namespace Mine.F7
section
variable {w : World} {p : Program} {loose : List Str} {mean : ExcName → Option Value} {mg mb : Str → Option Value}
  {dp un : Nat} {gd : Option (List Code)} {cn : Str} {cs : Scope} {a : Addr} {ccd : Value} {cl : List (Str × Addr)} {outer : List Env} {A₀ : Around} {base h₀ : Heap} {L : Addr} {m : Str → Option Value} {news : List (Addr × Obj)} {s : Shared}
    {Q E : Value → Shared → Prop}

theorem ne_low {b a : Nat} {news : List (Addr × Obj)} (h : ∀ p ∈ news, p.1 < b) (k : b ≤ a) : ∀ p ∈ news, p.1 ≠ a := fun p hp => Nat.ne_of_lt (Nat.lt_of_lt_of_le (h p hp) k)
theorem rsh_lit {prog : Program} {A : Around} {x y r : Int} {t u : Tok} {Q : Value → Shared → Prop} (e : x.fdiv (2 ^ y.toNat) = r) (hn : 0 ≤ y) (h : Q (.int r s.toks) { s with toks := s.toks + 1 }) : wpAny (model prog w) A (binaryOp .RShift (.int x t) (.int y u)) Q E s := by
  subst e; exact rshift_int hn h
theorem pow_le32 {k : Int} (h : k ≤ 5) : (0 : Int) < 2 ^ k.toNat ∧ (2 : Int) ^ k.toNat ≤ 32 := by
  have : k.toNat = 0 ∨ k.toNat = 1 ∨ k.toNat = 2 ∨ k.toNat = 3 ∨ k.toNat = 4 ∨ k.toNat = 5 := by omega
  rcases this with e | e | e | e | e | e <;> rw [e] <;> decide
theorem sh_abs {a b k : Int} (h1 : 0 ≤ a) (h2 : a ≤ 2) (h3 : 0 ≤ b) (h4 : b ≤ 2) (h : k ≤ 5) : (a * 2 ^ k.toNat + b).natAbs < 2 ^ 64 := by
  have hp := pow_le32 h
  have e : a = 0 ∨ a = 1 ∨ a = 2 := by omega
  generalize (2 : Int) ^ k.toNat = z at *
  rcases e with rfl | rfl | rfl <;> omega
theorem news_sub {h₀ h : Heap} {L : Addr} {a b : List (Addr × Obj)} (N : News h₀ L h a) (s : ∀ p ∈ b, p ∈ a) : News h₀ L h b := fun p hp => N p (s p hp)
structure Box (p : Prop) : Prop where
  out : p

noncomputable def WB (b : Bool) (P : Prop) : Prop := b = true ∧ P
noncomputable def WPost (J : Shared → Prop) (Q : Flow → Shared → Prop) (f : Flow) (s : Shared) : Prop :=
  match f with
  | .next => J s
  | .cont => J s
  | .brk => Q .next s
  | .ret v => Q (.ret v) s
theorem whl_ind {prog : Program} {A : Around} {Q : Flow → Shared → Prop} {env : Env} {test : PySem.Expr} {body orelse : List Stmt} {pos : Pos} (Inv : Nat → Shared → Prop) (K : Nat) (hE : PassesOwn (model prog w) A env E) (h0 : Inv 0 s)
    (turn : ∀ n s, n < K → Inv n s → wpAny (model prog w) A (PySem.isTrue test env (eval test env)) (fun b s₂ => WB b (wpAny (model prog w) A (execs body env) (WPost (Inv (n + 1)) Q) E s₂)) E s)
    (last : ∀ s, Inv K s → wpAny (model prog w) A (PySem.isTrue test env (eval test env)) (fun b s₂ => WB (!b) (wpAny (model prog w) A (execs orelse env) Q E s₂)) E s) :
    wpAny (model prog w) A (exec (.While test body orelse pos) env) Q E s := by
  refine whl_start 0 ?_
  have key : ∀ j n s, n + j = K → Inv n s → WhlRest prog w A E env test body orelse Q 0 s := by
    intro j
    induction j with
    | zero =>
      intro n s e hI
      have e' : n = K := by omega
      subst e'
      exact whl_turn (k := 0) hE (wpAny_mono (last s hI) (fun b s₂ hb => WhlIf.no (by cases b; rfl; exact absurd hb.1 (by decide)) hb.2) fun _ _ x => x)
    | succ j ih =>
      intro n s e hI
      refine whl_turn (k := 0) hE (wpAny_mono (turn n s (by omega) hI) (fun b s₂ hb => WhlIf.yes hb.1 (wpAny_mono hb.2 (fun f s₃ hf => ?_) fun _ _ x => x)) fun _ _ x => x)
      cases f with
      | next => exact ih (n + 1) s₃ (by omega) hf
      | cont => exact ih (n + 1) s₃ (by omega) hf
      | brk => exact hf
      | ret v => exact hf
  exact key K 0 s (by omega) h0
noncomputable abbrev wSt : List Str := [Str.ofString "tower", Str.ofString "idle", Str.ofString "disc", Str.ofString "peg", Str.ofString "moved"]
noncomputable abbrev wS3 : List Str := [Str.ofString "disc", Str.ofString "peg", Str.ofString "moved"]
noncomputable abbrev wM (m0 : Str → Option Value) (n : Int) (tn : Tok) (u : Str → Option Value) : Str → Option Value := fun y => if y = Str.ofString "place" then some (.int n tn) else if wSt.contains y then u y else m0 y
noncomputable abbrev IK (w : World) := PySem.intKind PySem.Challenge.rw_rw0037_01.row.prog w
noncomputable def WInv (w : World) (g : Heap) (L : Addr) (s : Shared) (m0 : Str → Option Value) (l d : Addr) (news : List (Addr × Obj)) (f wd : Int) (n : Nat) (s' : Shared) : Prop :=
  ∃ h tk tn, ∃ u : Str → Option Value, ∃ vs k o kvs, s' = { s with heap := h, toks := tk } ∧ Fr g L h (wM m0 (n : Int) tn u) ∧ News g L h ((l, listOf (List.toArray vs) k) :: (d, o) :: news) ∧ IntsAre vs (stN f wd n).1 ∧ o.IsDictOf (IK w) kvs ∧ FlatPairs PyData.int kvs (kdfD (stN f wd n).2)
noncomputable abbrev wF (m : Str → Option Value) (u1 u2 u3 : Option Value) : Str → Option Value := fun y => if y = Str.ofString "disc" then u1 else if y = Str.ofString "peg" then u2 else if y = Str.ofString "moved" then u3 else m y
noncomputable def WJ (w : World) (g : Heap) (L : Addr) (s : Shared) (m : Str → Option Value) (i1 : Addr) (o1 : Obj) (l d : Addr) (news : List (Addr × Obj)) (st : WSt) (f : Flow) (s' : Shared) : Prop :=
  f = .next ∧ ∃ h tk u1 u2 u3 vs k o kvs, s' = { s with heap := h, toks := tk } ∧ Fr g L h (wF m u1 u2 u3) ∧ News g L h ((i1, o1) :: (l, listOf (List.toArray vs) k) :: (d, o) :: news) ∧ IntsAre vs st.1 ∧ o.IsDictOf (IK w) kvs ∧ FlatPairs PyData.int kvs (kdfD st.2)
section
variable {g : Heap} {L : Addr} {s : Shared} {m m' : Str → Option Value} {i1 l d : Addr} {o1 o : Obj} {k : Nat} {news all : List (Addr × Obj)} {wd tw idle x dd d' : Int} {st st' : WSt} {vs : List Value} {kvs : List (Int × Value)} {h : Heap} {tk : Nat} {t u ti : Tok}
theorem winv0 {m0 : Str → Option Value} {f wd : Int} {tn : Tok} (F : Fr g L h (fun y => if y = Str.ofString "place" then some (.int 0 tn) else m0 y)) (N : News g L h ((l, listOf (List.toArray [Value.int f t]) k) :: (d, o) :: news)) (hd : o.IsDictOf (IK w) kvs) (hf : FlatPairs PyData.int kvs (kdfD [(f, 0)])) :
    WInv w g L s m0 l d news f wd 0 { s with heap := h, toks := tk } := by
  refine ⟨h, tk, tn, m0, _, k, o, kvs, rfl, ?_, N, .cons _ _ .nil, hd, hf⟩
  have : (fun y => if y = Str.ofString "place" then some (Value.int 0 tn) else m0 y) = wM m0 ((0 : Nat) : Int) tn m0 := by
    funext y
    show (if y = Str.ofString "place" then some (Value.int 0 tn) else m0 y) = if y = Str.ofString "place" then some (Value.int 0 tn) else if wSt.contains y = true then m0 y else m0 y
    rw [ite_self]
  exact this ▸ F
end
section
variable {prog : Program} {A : Around} {wd tw idle dd d' : Int} {t u : Tok} {Q : Value → Shared → Prop}
theorem w5 {y : Str} (hy : ¬ wSt.contains y = true) : y ≠ Str.ofString "tower" ∧ y ≠ Str.ofString "idle" ∧ y ≠ Str.ofString "disc" ∧ y ≠ Str.ofString "peg" ∧ y ≠ Str.ofString "moved" := by
  simp only [List.contains_cons, Bool.or_eq_true, beq_iff_eq, not_or] at hy
  exact ⟨hy.1, hy.2.1, hy.2.2.1, hy.2.2.2.1, hy.2.2.2.2.1⟩
theorem winv_next {g h : Heap} {L l d : Addr} {s : Shared} {o : Obj} {k tk n : Nat} {m0 M : Str → Option Value} {news : List (Addr × Obj)} {f wd i0 i1 i2 : Int} {tn : Tok} {sa sb sc : WSt} {vs : List Value} {kvs : List (Int × Value)} (F : Fr g L h M) (N : News g L h ((l, listOf (List.toArray vs) k) :: (d, o) :: news)) (hi : IntsAre vs sc.1) (hd : o.IsDictOf (IK w) kvs) (hf : FlatPairs PyData.int kvs (kdfD sc.2))
    (e3 : wstep wd ((stN f wd n).1.getD (Int.toNat (n : Int)) 0) sb i2 = sc) (e2 : wstep wd ((stN f wd n).1.getD (Int.toNat (n : Int)) 0) sa i1 = sb) (e1 : wstep wd ((stN f wd n).1.getD (Int.toNat (n : Int)) 0) (stN f wd n) i0 = sa) (z0 : i0 = 0) (z1 : i1 = 1) (z2 : i2 = 2)
    (hM : ∀ y, M y = wM m0 ((n + 1 : Nat) : Int) tn M y) : WInv w g L s m0 l d news f wd (n + 1) { s with heap := h, toks := tk } := by
  have e : stN f wd (n + 1) = sc := by
    subst z0 z1 z2
    show wstep wd ((stN f wd n).1.getD n 0) (wstep wd ((stN f wd n).1.getD n 0) (wstep wd ((stN f wd n).1.getD n 0) (stN f wd n) 0) 1) 2 = sc
    have hn : Int.toNat (n : Int) = n := rfl
    rw [hn] at e1 e2 e3
    rw [e1, e2, e3]
  refine ⟨h, tk, tn, M, vs, k, o, kvs, rfl, ?_, N, e ▸ hi, hd, e ▸ hf⟩
  exact (funext hM : M = _) ▸ F
theorem abs_peg {w t i d : Int} (h1 : 2 ≤ w) (h2 : w ≤ 5) (h3 : 0 ≤ i) (h4 : i ≤ 3) : (3 - i - 2 * pegF w t d).natAbs < 2 ^ 64 := by unfold pegF; exact abs_small h1 h2 h3 h4
theorem mod_peg (e : d' = dd) (h : Q (.int (pegF wd tw dd) s.toks) { s with toks := s.toks + 1 }) : wpAny (model prog w) A (binaryOp .Mod (.int (tw.fdiv (2 ^ (wd * d').toNat)) t) (.int (1 * 2 ^ wd.toNat) u)) Q E s := by
  subst e
  refine mod_int' ?_ h
  rw [Int.one_mul]
  exact Int.ne_of_gt (Int.pow_pos (by decide))
theorem add_mv (e : d' = dd) (h : Q (.int (mvF wd tw idle dd) s.toks) { s with toks := s.toks + 1 }) : wpAny (model prog w) A (binaryOp .Add (.int tw t) (.int ((3 - idle - 2 * pegF wd tw dd) * 2 ^ (wd * d').toNat) u)) Q E s := by
  subst e
  exact PySem.P.add_int h
end
theorem unr2 {h₀ : Heap} {L I a b B : Addr} {it o q : Obj} {rest : (Str → Option Value) → List (Addr × Obj) → Prop} {s₁ : Shared} {h' : Heap} {tk : Nat} {m' : Str → Option Value} {news : List (Addr × Obj)} (hl : ∀ p ∈ news, p.1 < B) (F : Fr h₀ L h' m') (N : News h₀ L h' ((I, it) :: (a, o) :: (b, q) :: news))
    (hB : @LE.le Nat _ B I) (hne : @Ne Nat a I) (hne2 : @Ne Nat b I) (r : rest m' ((a, o) :: (b, q) :: news)) : UnrEnd h₀ L s₁ I it rest { s₁ with heap := h', toks := tk } :=
  UnrEnd.intro F N ((a, o) :: (b, q) :: news) (fun p hp => hp) (fun p hp => by
    rcases List.mem_cons.mp hp with rfl | hp
    · exact hne
    · rcases List.mem_cons.mp hp with rfl | hp
      · exact hne2
      · exact Nat.ne_of_lt (Nat.lt_of_lt_of_le (hl p hp) hB)) r
theorem unr3 {h₀ : Heap} {L I a b c B : Addr} {it o q z : Obj} {rest : (Str → Option Value) → List (Addr × Obj) → Prop} {s₁ : Shared} {h' : Heap} {tk : Nat} {m' : Str → Option Value} {news : List (Addr × Obj)} (hl : ∀ p ∈ news, p.1 < B) (F : Fr h₀ L h' m') (N : News h₀ L h' ((I, it) :: (a, o) :: (b, q) :: (c, z) :: news))
    (hB : @LE.le Nat _ B I) (hne : @Ne Nat a I) (hne2 : @Ne Nat b I) (hne3 : @Ne Nat c I) (r : rest m' ((a, o) :: (b, q) :: (c, z) :: news)) : UnrEnd h₀ L s₁ I it rest { s₁ with heap := h', toks := tk } :=
  UnrEnd.intro F N ((a, o) :: (b, q) :: (c, z) :: news) (fun p hp => hp) (fun p hp => by
    rcases List.mem_cons.mp hp with rfl | hp
    · exact hne
    · rcases List.mem_cons.mp hp with rfl | hp
      · exact hne2
      · rcases List.mem_cons.mp hp with rfl | hp
        · exact hne3
        · exact Nat.ne_of_lt (Nat.lt_of_lt_of_le (hl p hp) hB)) r
theorem wap {prog : Program} {A : Around} {D : Addr} {news' : List (Addr × Obj)} {vs : List Value} {ns : List Int} {n : Nat} {x : Int} {t : Tok} {Q : Value → Shared → Prop} (F : Fr h₀ L s.heap m) (N : News h₀ L s.heap news) (U : Upd D (listOf vs.toArray n) (listOf (vs ++ [Value.int x t]).toArray (n + 1)) news news') (hi : IntsAre vs ns) (hz : ns.length ≤ 1000)
    (h : ∀ h', Fr h₀ L h' m → News h₀ L h' news' → IntsAre (vs ++ [Value.int x t]) (ns ++ [x]) → Q .none { s with heap := h' }) : wpAny (model prog w) A (call (.builtin "list.append") [.ref D, .int x t]) Q E s := by
  have e : (vs ++ [Value.int x t]).toArray = vs.toArray.push (.int x t) := by simp
  rw [e] at U
  exact append_K F N U (fun h' F' N' => h h' F' N' (IntsAre.append hi (.cons _ _ .nil))) (by rw [List.size_toArray, hi.length, sizeLine_eq]; omega)
noncomputable abbrev wG (m : Str → Option Value) (idle tw wd : Int) (ti tt tu : Tok) (d l : Addr) : Str → Option Value := fun y => if y = Str.ofString "idle" then some (.int idle ti) else if y = Str.ofString "tower" then some (.int tw tt) else if y = Str.ofString "width" then some (.int wd tu) else if y = Str.ofString "ways" then some (.ref d) else if y = Str.ofString "line" then some (.ref l) else m y
theorem wG_eq {m : Str → Option Value} {idle tw wd : Int} {ti tt tu : Tok} {d l : Addr} (a : m (Str.ofString "idle") = some (.int idle ti)) (b : m (Str.ofString "tower") = some (.int tw tt)) (c : m (Str.ofString "width") = some (.int wd tu)) (e : m (Str.ofString "ways") = some (.ref d)) (f : m (Str.ofString "line") = some (.ref l)) : wG m idle tw wd ti tt tu d l = m := by
  funext y
  unfold wG
  by_cases h1 : y = Str.ofString "idle"
  · subst h1; rw [if_pos rfl]; exact a.symm
  by_cases h2 : y = Str.ofString "tower"
  · subst h2; rw [if_neg h1, if_pos rfl]; exact b.symm
  by_cases h3 : y = Str.ofString "width"
  · subst h3; rw [if_neg h1, if_neg h2, if_pos rfl]; exact c.symm
  by_cases h4 : y = Str.ofString "ways"
  · subst h4; rw [if_neg h1, if_neg h2, if_neg h3, if_pos rfl]; exact e.symm
  by_cases h5 : y = Str.ofString "line"
  · subst h5; rw [if_neg h1, if_neg h2, if_neg h3, if_neg h4, if_pos rfl]; exact f.symm
  rw [if_neg h1, if_neg h2, if_neg h3, if_neg h4, if_neg h5]
theorem wF_of {mm m : Str → Option Value} (h : ∀ y, y ≠ Str.ofString "disc" → y ≠ Str.ofString "peg" → y ≠ Str.ofString "moved" → mm y = m y) : mm = wF m (mm (Str.ofString "disc")) (mm (Str.ofString "peg")) (mm (Str.ofString "moved")) := by
  funext y
  unfold wF
  by_cases h1 : y = Str.ofString "disc"
  · subst h1; rw [if_pos rfl]
  by_cases h2 : y = Str.ofString "peg"
  · subst h2; rw [if_neg h1, if_pos rfl]
  by_cases h3 : y = Str.ofString "moved"
  · subst h3; rw [if_neg h1, if_neg h2, if_pos rfl]
  rw [if_neg h1, if_neg h2, if_neg h3]
  exact h y h1 h2 h3
/-- what the loop over the discs does, whatever the idle peg -/
noncomputable def WSpec (prog : Program) (w : World) (A : Around) (env : Env) (g : Heap) (L : Addr) (news : List (Addr × Obj)) (wd : Int) (l d : Addr) (stm : Stmt) : Prop :=
  ∀ (s : Shared) (m : Str → Option Value) (i1 : Addr) (o1 o : Obj) (k : Nat) (vs : List Value) (kvs : List (Int × Value)) (st : WSt) (tw idle : Int) (ti tt tu : Tok) (E : Value → Shared → Prop), PassesOwn (model prog w) A env E →
    Fr g L s.heap (wG m idle tw wd ti tt tu d l) → News g L s.heap ((i1, o1) :: (l, listOf (List.toArray vs) k) :: (d, o) :: news) → IntsAre vs st.1 → o.IsDictOf (IK w) kvs → FlatPairs PyData.int kvs (kdfD st.2) → kdfHas st.2 tw = true → st.2.length = st.1.length → st.1.length ≤ 950 → 0 ≤ idle → idle ≤ 3 → @LT.lt Nat _ l i1 → @LT.lt Nat _ d l → (∀ p ∈ news, p.1 < d) → (d == sysModules) = false →
    wpAny (model prog w) A (exec stm env) (WJ w g L s (wG m idle tw wd ti tt tu d l) i1 o1 l d news (wstep wd tw st idle)) E s
theorem w_use {prog : Program} {g : Heap} {L : Addr} {s : Shared} {m : Str → Option Value} {i1 l d : Addr} {o1 o : Obj} {k : Nat} {news : List (Addr × Obj)} {wd tw idle : Int} {st : WSt} {vs : List Value} {kvs : List (Int × Value)} {t u ti : Tok} {A : Around} {env : Env} {stm : Stmt} {Q : Flow → Shared → Prop} {E : Value → Shared → Prop} (H : WSpec prog w A env g L news wd l d stm) (hE : PassesOwn (model prog w) A env E)
    (F : Fr g L s.heap m) (N : News g L s.heap ((i1, o1) :: (l, listOf (List.toArray vs) k) :: (d, o) :: news)) (hi : IntsAre vs st.1) (hd : o.IsDictOf (IK w) kvs) (hf : FlatPairs PyData.int kvs (kdfD st.2))
    (htw : kdfHas st.2 tw = true) (hky : st.2.map (·.1) = st.1) (hle : st.2.length = st.1.length) (hid : m (Str.ofString "idle") = some (.int idle ti)) (hwd : m (Str.ofString "width") = some (.int wd t)) (htt : m (Str.ofString "tower") = some (.int tw u)) (hwy : m (Str.ofString "ways") = some (.ref d)) (hln : m (Str.ofString "line") = some (.ref l)) (hz : st.1.length ≤ 950) (h0 : 0 ≤ idle) (h3 : idle ≤ 3) (hl : @LT.lt Nat _ l i1) (hdl : @LT.lt Nat _ d l) (hnd : ∀ p ∈ news, p.1 < d) (hsm : (d == sysModules) = false)
    (cont : ∀ st' h tk (u1 u2 u3 : Option Value) vs k o kvs, wstep wd tw st idle = st' → kdfHas st'.2 tw = true → st'.1.length ≤ st.1.length + 1 → st'.2.map (·.1) = st'.1 → st'.2.length = st'.1.length → IntsAre vs st'.1 → o.IsDictOf (IK w) kvs → FlatPairs PyData.int kvs (kdfD st'.2) →
      Fr g L h (fun y => if y = Str.ofString "disc" then u1 else if y = Str.ofString "peg" then u2 else if y = Str.ofString "moved" then u3 else m y) → News g L h ((i1, o1) :: (l, listOf (List.toArray vs) k) :: (d, o) :: news) → Q .next { s with heap := h, toks := tk }) : wpAny (model prog w) A (exec stm env) Q E s := by
  have e := wG_eq hid htt hwd hwy hln
  have S := H s m i1 o1 o k vs kvs st tw idle ti u t E hE (e.symm ▸ F) N hi hd hf htw hle hz h0 h3 hl hdl hnd hsm
  rw [e] at S
  refine wpAny_mono S ?_ (fun _ _ e => e)
  rintro f s' ⟨rfl, h, tk, u1, u2, u3, vs', k', o', kvs', rfl, F', N', hi', hd', hf'⟩
  exact cont _ h tk u1 u2 u3 vs' k' o' kvs' rfl (stepI_has htw) stepI_len (stepI_keys hky) (by rw [← stepI_keys hky, List.length_map]) hi' hd' hf' F' N'
theorem w_with {M : Model} {A : Around} {env : Env} {t t1 it : PySem.Expr} {b b1 b2 : Stmt} {pos p1 : Pos} {els : List Stmt} {Q : Flow → Shared → Prop} {E : Value → Shared → Prop} {g : Heap} {L : Addr} {ol od : Obj} {l d : Addr} {news : List (Addr × Obj)} {P : Around → Env → Stmt → Addr → Addr → Prop} (_N : News g L s.heap ((l, ol) :: (d, od) :: news)) (H : ∀ l d, P A env b l d) (rest : P A env b l d → wpAny M A (exec (.While t [b1, b2, .For t1 it [b] [] p1] els pos) env) Q E s) : wpAny M A (exec (.While t [b1, b2, .For t1 it [b] [] p1] els pos) env) Q E s := rest (H l d)
section
variable {g h : Heap} {L I i1 l d : Addr} {oI o1 o : Obj} {m mm : Str → Option Value} {vs : List Value} {kvs : List (Int × Value)} {news : List (Addr × Obj)} {wd tw idle dd : Int} {st st' : WSt} {i k tk : Nat} {J : Shared → Prop}
theorem w_brk (F : Fr g L h mm) (N : News g L h ((I, oI) :: (i1, o1) :: (l, listOf (List.toArray vs) k) :: (d, o) :: news)) (hm : ∀ y, y ≠ Str.ofString "disc" → y ≠ Str.ofString "peg" → y ≠ Str.ofString "moved" → mm y = m y) (hd : o.IsDictOf (IK w) kvs) (hdd : dd = 0 + (i : Int)) (hi4 : i < 4) (hall : ∀ x : Int, 0 ≤ x → x < (i : Int) → pegF wd tw x = idle) (hne : pegF wd tw dd ≠ idle) (e : putF wd tw idle dd st = st')
    (hi : IntsAre vs st'.1) (hf : FlatPairs PyData.int kvs (kdfD st'.2)) : ForJ J (WJ w g L s m i1 o1 l d news (wstep wd tw st idle)) .brk { s with heap := h, toks := tk } := by
  show WJ w g L s m i1 o1 l d news (wstep wd tw st idle) .next _
  rw [(stepI_at hdd (by show i < Int.toNat 4; exact hi4) hall hne).trans e]
  exact ⟨rfl, h, tk, _, _, _, vs, k, o, kvs, rfl, wF_of hm ▸ F, fun p hp => N p (.tail _ hp), hi, hd, hf⟩
theorem w_in (h : kdfHas st.2 (mvF wd tw idle dd) = true) : putF wd tw idle dd st = st := by unfold putF; rw [if_pos (by simpa using h)]
theorem w_new (h : kdfHas st.2 (mvF wd tw idle dd) = false) : putF wd tw idle dd st = (st.1 ++ [mvF wd tw idle dd], kdfPut st.2 (mvF wd tw idle dd) (kdfLook st.2 tw 0 + 1)) := by unfold putF; rw [if_neg (by simpa using h)]
noncomputable def DInv (m : Str → Option Value) (i1 : Addr) (o1 : Obj) (l : Addr) (vs : List Value) (k : Nat) (d : Addr) (o : Obj) (news : List (Addr × Obj)) (wd tw idle : Int) (i : Nat) (m' : Str → Option Value) (rest : List (Addr × Obj)) : Prop :=
  ∃ u1 u2 u3, m' = wF m u1 u2 u3 ∧ rest = (i1, o1) :: (l, listOf (List.toArray vs) k) :: (d, o) :: news ∧ ∀ x : Int, 0 ≤ x → x < (i : Int) → pegF wd tw x = idle
theorem w_turn {Q : Flow → Shared → Prop} (F : Fr g L h mm) (N : News g L h ((I, oI) :: (i1, o1) :: (l, listOf (List.toArray vs) k) :: (d, o) :: news)) (hm : ∀ y, y ≠ Str.ofString "disc" → y ≠ Str.ofString "peg" → y ≠ Str.ofString "moved" → mm y = m y) (hdd : dd = 0 + (i : Int)) (hall : ∀ x : Int, 0 ≤ x → x < (i : Int) → pegF wd tw x = idle) (heq : pegF wd tw dd = idle) (off : ∀ p ∈ (i1, o1) :: (l, listOf (List.toArray vs) k) :: (d, o) :: news, p.1 ≠ I) :
    ForJ (fun s₃ => ∃ h₃ tk₃ m₃ rest₃, s₃ = { s with heap := h₃, toks := tk₃ } ∧ Fr g L h₃ m₃ ∧ News g L h₃ ((I, oI) :: rest₃) ∧ (∀ p ∈ rest₃, p.1 ≠ I) ∧ DInv m i1 o1 l vs k d o news wd tw idle (i + 1) m₃ rest₃) Q .next { s with heap := h, toks := tk } := by
  refine ⟨h, tk, mm, _, rfl, F, N, off, _, _, _, wF_of hm, rfl, fun x h0 h1 => ?_⟩
  by_cases q : x < (i : Int)
  · exact hall x h0 q
  · have : x = dd := by omega
    rw [this]; exact heq
end
theorem ways_call {K : Nat} {f wd : Int} {t1 t2 : Tok}
    (B : Below A₀ base outer h₀) (F : Fr h₀ L s.heap m) (X : (hd.heap_39 w.params).In h₀) (N : News h₀ L s.heap news) (T : Top p loose mean mg mb h₀) (hk : cs.kind = .function)
    (hd : dp + 3 < recursionLimit) (hu : un + 24 < cLine) (h1 : 2 ≤ wd) (h2 : wd ≤ 5) (hN : ∀ n, n < K → n < (stN f wd n).1.length) (hB : ∀ n, n ≤ K → (stN f wd n).1.length ≤ 900) (hL : (stN f wd K).1.length = K)
    (hret : ∀ D o kvs h' tk', Fr h₀ L h' m → News h₀ L h' ((D, o) :: news) → o.IsDictOf (IK w) kvs → FlatPairs PyData.int kvs (kdfD (stN f wd K).2) → (D == sysModules) = false → (∀ p ∈ news, p.1 < D) → Q (.ref D) { s with heap := h', toks := tk' }) :
    wpAny (model PySem.Challenge.rw_rw0037_01.row.prog w) (ktrTop dp un gd cn cs L a ccd cl outer) (call (.ref 91) [.int f t1, .int wd t2]) Q E s := by
  k_with_none
  k_with "execs cons" => (first | (k_here; k_gentoks) | (k_here; k_made) | ((with_reducible refine Mine.Hi.ex_hid ?_); intro qH'Q hH'Q; (try dsimp only)))
  k_with "is_list" => (exact News.isList (by k_asm) (by k_mem))
  k_with "k_mem" => (assumption)
  k_with "k_all" => (first | assumption | (refine ne_low (by assumption) ?_; omega))
  k_with "binaryOp RShift int int" => (first | (refine rsh_lit (r := 1) (by decide) (by decide) ?_) | (refine rsh_lit (r := 2) (by decide) (by decide) ?_) | (refine rsh_lit (r := 3) (by decide) (by decide) ?_))
  k_with "eval Dict" => ((k_here; k_dflt (refine' kdn_eval (knd := PySem.intKind _ _) ?FK ?NK ?bK ?aK ?lK ?eK ?nK ?_; (case FK => k_asm); (case NK => k_asm); (case bK => exact Top.nolimit (by k_asm)); (case aK => rfl); (case lK => rfl); (case eK => exact List.cons_ne_nil _ _); (case nK => exact Nat.le_of_ble_eq_true rfl)); intro d'Q h'Q o'Q F'Q N'Q l1Q lo'Q hd'Q; (try k_lt l1Q)))
  k_with "binaryOp Mod int int" => ((refine mod_peg rfl ?_))
  k_with "binaryOp Add int int" => ((refine add_mv rfl ?_))
  k_with "UnrEnd" => (((with_unfolding_all (refine' unr2 ?hlK ?FK ?NK ?BK ?neK ?nfK ?_; (case hlK => assumption); (case FK => k_asm); (case NK => k_asm))); (k_dflt ((case BK => omega); (case neK => omega); (case nfK => omega)))))
  k_with "UnrEnd" => (((with_unfolding_all (refine' unr3 ?hlK ?FK ?NK ?BK ?neK ?nfK ?ngK ?_; (case hlK => assumption); (case FK => k_asm); (case NK => k_asm))); (k_dflt ((case BK => omega); (case neK => omega); (case nfK => omega); (case ngK => omega)))))
  k_with "binaryOp LShift int int" => (first | (refine lshift_int_small ?k1K ?k2K ?k3K ?_; (case k1K => omega); (case k2K => omega); (case k3K => decide)) | (refine lshift_int_small ?k1K ?k2K ?k3K ?_; (case k1K => exact (sh_bnd (by assumption) (by assumption) (by assumption) (by assumption)).1); (case k2K => exact (sh_bnd (by assumption) (by assumption) (by assumption) (by assumption)).2); (case k3K => exact abs_peg (by assumption) (by assumption) (by assumption) (by assumption))))
  k_with "binaryOp RShift int int" => ((refine rshift_int ?k1K ?_; (case k1K => exact (sh_bnd (by assumption) (by assumption) (by assumption) (by assumption)).1)))
  k_with "call builtin:list.append cons nil" => ((k_here; (with_reducible show wpAny _ _ (call (Value.builtin "list.append") [Value.ref _, Value.int _ _]) _ _ _); k_dflt (refine' wap ?FK ?NK ?UK ?iK ?zK ?_; (case FK => k_asm); (case NK => k_asm); (case UK => k_upd); (case iK => assumption); (case zK => omega)); intro h'Q F'Q N'Q hi'Q))
  k_with "exec For Name Call cons nil" => ((k_here; (with_reducible show wpAny _ _ (exec (Stmt.For (Expr.Name (Str.ofString "disc") _) _ _ _ _) _) _ _ _); k_dflt (refine' w_use ?cHK ?cEK ?cFK ?cNK ?ciK ?cdK ?cfK ?ctK ?cyK ?czK ?c1K ?c2K ?c3K ?c4K ?c5K ?c6K ?c7K ?c8K ?c9K ?caK ?cbK ?ccK ?_; (case cHK => assumption); (case cEK => first | passes_own | with_unfolding_all passes_own); (case cFK => k_asm); (case cNK => k_asm); (case c1K => exact rfl); (case c2K => exact rfl); (case c3K => exact rfl); (case c4K => exact rfl); (case c5K => exact rfl); (case ctK => assumption); (case ciK => assumption); (case cdK => assumption); (case cfK => assumption); (case cyK => assumption); (case czK => assumption); (case c6K => omega); (case c7K => omega); (case c8K => omega); (case c9K => omega); (case caK => omega); (case cbK => assumption); (case ccK => assumption)); intro _ h'Q tk'Q _ _ _ _ _ _ _ _ _ _ _ _ _ _ _ F'Q N'Q; (try dsimp only); (try k_fold)))
  revert X
  have hx : PySem.Challenge.rw_rw0037_01 = PySem.Challenge.rw_rw0037_01 := rfl
  revert hx
  k_fill
  intro hx X
  refine wpAny_call ?_
  k_dflt (refine' code_def ?k1 ?k2 ?k3 ?k4 ?k5 ?kA ?kF ?kK ?k6 ?k7 ?k8 ?k9 ?kB ?_ ?c2 ?c3 ?c4 ?c5; (case kA => exact rfl); (case kF => exact rfl); (case kK => assumption); (case k1 => k_asm); (case k2 => k_asm); (case k3 => k_asm); (case k4 => k_asm); (case k5 => k_asm); (case k6 => k_is); (case k7 => k_is); (case k8 => ktr_room); (case k9 => exact BindsTo.of_eq rfl); (case c5 => decide); (case kB => exact locs rfl); (case c2 => exact rfl); (case c3 => exact rfl); (case c4 => exact rfl); k_whole; intro g' L' h' FG' F' N' B' X' T'; (try dsimp only); (try k_fold))
  repeat' ((fail_if_success (with_reducible show wpAny _ _ (exec (Stmt.While _ _ _ _) _) _ _ _)); first | (((fail_if_success (with_reducible show wpAny _ _ _ _ _ _)); first | (refine Mine.Hi.HidV.out (by with_reducible assumption) _ _ ?_) | (refine Mine.Hi.Hid.nxt (by with_reducible assumption) _ ?_) | (refine Mine.Hi.Hid.oth (by with_reducible assumption) _ _ (fun h => nomatch h) ?_)); (try dsimp only)) | (k_unfold; (try dsimp only)) | (k_end; wrow_close) | ((with_reducible show wpAny _ _ (PySem.evalPart _ _) _ _ _); walk1) | ((with_reducible show wpAny _ _ (PyProof.Rows.subscriptTail _ _ _ _) _ _ _); walk1) | (walk1 <;> (try ((fail_if_success (with_reducible show wpAny _ _ (PyProof.Rows.subscriptTail _ _ _ _) _ _ _)); dsimp only))) | (dsimp only; walk1 <;> (try ((fail_if_success (with_reducible show wpAny _ _ (PyProof.Rows.subscriptTail _ _ _ _) _ _ _)); dsimp only))) | (leave1; walk_say "STEP leave1"; try dsimp only))
  skip
  refine' w_with (P := fun A' env' st' l' d' => WSpec PySem.Challenge.rw_rw0037_01.row.prog w A' env' g' L' news wd l' d' st') ?wN ?spec ?_
  case wN => k_asm
  case spec =>
    intro l d s m i1 o1 o k vs kvs st tw idle ti tt tu E hE hF hN hi hdd hff htw hle hz h0 h3 hli hdl hnd hsm
    refine forc ?_ (by intro _; rfl)
    repeat' ((fail_if_success (with_reducible show wpAny _ _ (pyIter _) _ _ _)); first | (((fail_if_success (with_reducible show wpAny _ _ _ _ _ _)); first | (refine Mine.Hi.HidV.out (by with_reducible assumption) _ _ ?_) | (refine Mine.Hi.Hid.nxt (by with_reducible assumption) _ ?_) | (refine Mine.Hi.Hid.oth (by with_reducible assumption) _ _ (fun h => nomatch h) ?_)); (try dsimp only)) | (k_unfold; (try dsimp only)) | ((with_reducible show wpAny _ _ (evalPart _ _) _ _ _); walk1) | ((with_reducible show wpAny _ _ (subscriptTail _ _ _ _) _ _ _); walk1) | (walk1 <;> (try ((fail_if_success (with_reducible show wpAny _ _ (subscriptTail _ _ _ _) _ _ _)); dsimp only))) | (dsimp only; walk1 <;> (try ((fail_if_success (with_reducible show wpAny _ _ (subscriptTail _ _ _ _) _ _ _)); dsimp only))))
    k_dflt (refine' forc_iter (n := 4) ?r ?s ?n ?F ?N ?_; (case r => assumption); (case s => first | decide | rfl); (case n => first | decide | rfl); (case F => k_asm); (case N => k_asm))
    intro I h1' F1 N1 lI
    (try k_sweep)
    refine' forc_ind (L := L') (n := 4) (DInv (wG m idle tw wd ti tt tu d l) i1 o1 l vs k d o news wd tw idle) ?hE ?hh rfl ?zF ?zN ?zo ?zi ?turn ?fin
    case zF => exact F1
    case zN => exact N1
    case hE => exact hE
    case hh => rfl
    case zo => exact fun p hp => Nat.ne_of_lt (lI p hp)
    case zi => exact ⟨_, _, _, wF_of (fun _ _ _ _ => rfl), rfl, fun x a b => absurd b (by omega)⟩
    case fin =>
      intro m3' rest3 h3 tk3 hHid F3 N3
      refine Mine.Hi.hideG (fun G hG => ?_)
      obtain ⟨u1, u2, u3, eH1, eH2, hall⟩ := hHid
      refine hG ?_
      clear hG
      subst eH1 eH2
      show WJ _ _ _ _ _ _ _ _ _ _ _ _ _
      rw [stepI_off hall]
      exact ⟨rfl, h3, tk3, u1, u2, u3, vs, k, o, kvs, rfl, F3, N3, hi, hdd, hff⟩
    case turn =>
      intro i m3' rest3 h3 t3 tk3 hi4 hHid off F3 N3
      refine Mine.Hi.hideG (fun G hG => ?_)
      obtain ⟨u1, u2, u3, eH1, eH2, hall⟩ := hHid
      refine hG ?_
      clear hG
      subst eH1 eH2
      have nI1 : @Ne Nat i1 I := off _ (.head _)
      have nIl : @Ne Nat l I := off _ (.tail _ (.head _))
      have nId : @Ne Nat d I := off _ (.tail _ (.tail _ (.head _)))
      have nIn : ∀ p ∈ news, p.1 ≠ I := fun p hp => off p (.tail _ (.tail _ (.tail _ hp)))
      generalize hdx : (0 + (i : Int) * 1 : Int) = dd at *
      have hd0 : 0 ≤ dd := by omega
      have hd3 : dd ≤ 3 := by omega
      have hdi : dd = 0 + (i : Int) := by omega
      (try dsimp only)
      (try k_fold)
      walk1
      (try dsimp only)
      (refine Mine.Hi.post_hid ?_; intro qT hT)
      repeat' (first | (((fail_if_success (with_reducible show wpAny _ _ _ _ _ _)); first | (refine Mine.Hi.HidV.out (by with_reducible assumption) _ _ ?_) | (refine Mine.Hi.Hid.nxt (by with_reducible assumption) _ ?_) | (refine Mine.Hi.Hid.oth (by with_reducible assumption) _ _ (fun h => nomatch h) ?_)); (try dsimp only)) | (k_unfold; (try dsimp only)) | ((with_reducible show wpAny _ _ (PySem.evalPart _ _) _ _ _); walk1) | ((with_reducible show wpAny _ _ (PyProof.Rows.subscriptTail _ _ _ _) _ _ _); walk1) | (walk1 <;> (try ((fail_if_success (with_reducible show wpAny _ _ (PyProof.Rows.subscriptTail _ _ _ _) _ _ _)); dsimp only))) | (dsimp only; walk1 <;> (try ((fail_if_success (with_reducible show wpAny _ _ (PyProof.Rows.subscriptTail _ _ _ _) _ _ _)); dsimp only))))
      all_goals (show ForJ _ _ _ _)
      all_goals first
        | (refine' w_turn ?a1 ?a2 ?a3 hdi hall ?a4 off; (case a1 => k_asm); (case a2 => k_asm); (case a4 => assumption); (case a3 => intro y e1 e2 e3; simp only [wF, if_neg e1, if_neg e2, if_neg e3]))
        | (refine' w_brk ?b1 ?b2 ?b3 ?b4 hdi hi4 hall ?b5 (w_in ?b6) ?b7 ?b8; (case b1 => k_asm); (case b2 => k_asm); (case b6 => assumption); (case b5 => assumption); (case b4 => assumption); (case b7 => assumption); (case b8 => assumption); (case b3 => intro y e1 e2 e3; simp only [wF, if_neg e1, if_neg e2, if_neg e3]))
        | (refine' w_brk ?c1 ?c2 ?c3 ?c4 hdi hi4 hall ?c5 (w_new ?c6) ?c7 ?c8; (case c1 => k_asm); (case c2 => k_asm); (case c6 => assumption); (case c5 => assumption); (case c4 => assumption); (case c7 => assumption); (case c8 => assumption); (case c3 => intro y e1 e2 e3; simp only [wF, if_neg e1, if_neg e2, if_neg e3]))
  intro HS
  refine' whl_ind (WInv w g' L' s _ ?wl ?wd2 news f wd) K ?hE ?h0 ?turn ?last
  case hE => first | passes_own | with_unfolding_all passes_own
  case h0 => exact winv0 (by k_asm) (by k_asm) (by assumption) (by assumption)
  skip
  case last =>
    intro s1 hHid
    refine Mine.Hi.hideG (fun G hG => ?_)
    obtain ⟨h1', tk1, tn, u, vs, k, o, kvs, eH1, F1, N1, hi, hdd, hff⟩ := hHid
    refine hG ?_
    clear hG
    subst eH1
    have hLK := hB K (Nat.le_refl K)
    show wpAny _ _ _ _ _ _
    k_fold
    repeat' (first | (((fail_if_success (with_reducible show wpAny _ _ _ _ _ _)); first | (refine Mine.Hi.HidV.out (by with_reducible assumption) _ _ ?_) | (refine Mine.Hi.Hid.nxt (by with_reducible assumption) _ ?_) | (refine Mine.Hi.Hid.oth (by with_reducible assumption) _ _ (fun h => nomatch h) ?_)); (try dsimp only)) | (k_unfold; (try dsimp only)) | ((with_reducible show wpAny _ _ (PySem.evalPart _ _) _ _ _); walk1) | ((with_reducible show wpAny _ _ (PyProof.Rows.subscriptTail _ _ _ _) _ _ _); walk1) | (walk1 <;> (try ((fail_if_success (with_reducible show wpAny _ _ (PyProof.Rows.subscriptTail _ _ _ _) _ _ _)); dsimp only))) | (dsimp only; walk1 <;> (try ((fail_if_success (with_reducible show wpAny _ _ (PyProof.Rows.subscriptTail _ _ _ _) _ _ _)); dsimp only))))
    refine ⟨?_, ?_⟩
    · rw [hL]; simp
    · show wpAny _ _ _ _ _ _
      repeat' (first | (((fail_if_success (with_reducible show wpAny _ _ _ _ _ _)); first | (refine Mine.Hi.HidV.out (by with_reducible assumption) _ _ ?_) | (refine Mine.Hi.Hid.nxt (by with_reducible assumption) _ ?_) | (refine Mine.Hi.Hid.oth (by with_reducible assumption) _ _ (fun h => nomatch h) ?_)); (try dsimp only)) | (k_unfold; (try dsimp only)) | ((with_reducible show wpAny _ _ (PySem.evalPart _ _) _ _ _); walk1) | ((with_reducible show wpAny _ _ (PyProof.Rows.subscriptTail _ _ _ _) _ _ _); walk1) | (walk1 <;> (try ((fail_if_success (with_reducible show wpAny _ _ (PyProof.Rows.subscriptTail _ _ _ _) _ _ _)); dsimp only))) | (dsimp only; walk1 <;> (try ((fail_if_success (with_reducible show wpAny _ _ (PyProof.Rows.subscriptTail _ _ _ _) _ _ _)); dsimp only))))
      all_goals (try k_data)
      exact hret _ _ _ _ _ (by k_asm) (news_sub (by k_asm) (List.forall_mem_cons.mpr ⟨List.Mem.tail _ (List.Mem.head _), fun p hp => List.Mem.tail _ (List.Mem.tail _ hp)⟩)) hdd hff (by assumption) (by assumption)
  skip
  case turn =>
    intro n s1 hn hHid
    refine Mine.Hi.hideG (fun G hG => ?_)
    obtain ⟨h1', tk1, tn, u, vs, k, o, kvs, eH1, F1, N1, hi, hdd, hff⟩ := hHid
    refine hG ?_
    clear hG
    subst eH1
    have hlt := hN n hn
    have hle := hB n (Nat.le_of_lt hn)
    have htw : kdfHas (stN f wd n).2 ((stN f wd n).1.getD (Int.toNat (n : Int)) 0) = true := stN_has hlt
    have hky := stN_keys f wd n
    have hlz : (stN f wd n).2.length = (stN f wd n).1.length := by rw [← hky, List.length_map]
    show wpAny _ _ _ _ _ _
    k_fold
    repeat' (first | (((fail_if_success (with_reducible show wpAny _ _ _ _ _ _)); first | (refine Mine.Hi.HidV.out (by with_reducible assumption) _ _ ?_) | (refine Mine.Hi.Hid.nxt (by with_reducible assumption) _ ?_) | (refine Mine.Hi.Hid.oth (by with_reducible assumption) _ _ (fun h => nomatch h) ?_)); (try dsimp only)) | (k_unfold; (try dsimp only)) | ((with_reducible show wpAny _ _ (PySem.evalPart _ _) _ _ _); walk1) | ((with_reducible show wpAny _ _ (PyProof.Rows.subscriptTail _ _ _ _) _ _ _); walk1) | (walk1 <;> (try ((fail_if_success (with_reducible show wpAny _ _ (PyProof.Rows.subscriptTail _ _ _ _) _ _ _)); dsimp only))) | (dsimp only; walk1 <;> (try ((fail_if_success (with_reducible show wpAny _ _ (PyProof.Rows.subscriptTail _ _ _ _) _ _ _)); dsimp only))))
    refine ⟨decide_eq_true (by omega), ?_⟩
    show wpAny _ _ _ _ _ _
    (refine Mine.Hi.post_hid ?_; intro qT hT)
    repeat' ((fail_if_success (with_reducible show WPost _ _ _ _)); first | (((fail_if_success (with_reducible show wpAny _ _ _ _ _ _)); first | (refine Mine.Hi.HidV.out (by with_reducible assumption) _ _ ?_) | (refine Mine.Hi.Hid.nxt (by with_reducible assumption) _ ?_) | (refine Mine.Hi.Hid.oth (by with_reducible assumption) _ _ (fun h => nomatch h) ?_)); (try dsimp only)) | (k_unfold; (try dsimp only)) | ((with_reducible show wpAny _ _ (evalPart _ _) _ _ _); walk1) | ((with_reducible show wpAny _ _ (subscriptTail _ _ _ _) _ _ _); walk1) | (walk1 <;> (try ((fail_if_success (with_reducible show wpAny _ _ (subscriptTail _ _ _ _) _ _ _)); dsimp only))) | (dsimp only; walk1 <;> (try ((fail_if_success (with_reducible show wpAny _ _ (subscriptTail _ _ _ _) _ _ _)); dsimp only))))
    all_goals (try k_data)
    show WInv _ _ _ _ _ _ _ _ _ _ _ _
    refine' winv_next ?qF ?qN ?qi ?qd ?qf ?q3 ?q2 ?q1 ?z0 ?z1 ?z2 ?qM
    case qF => k_asm
    case qN => k_asm
    case qi => assumption
    case qd => assumption
    case qf => assumption
    case q3 => assumption
    case q2 => assumption
    case q1 => assumption
    case z0 => decide
    case z1 => decide
    case z2 => decide
    case qM =>
      intro y
      by_cases q1 : y = Str.ofString "place"
      · subst q1; rfl
      · by_cases q2 : wSt.contains y = true
        · simp only [wM, if_neg q1, if_pos q2]
        · have q3 := w5 q2
          simp only [wM, if_neg q1, if_neg q2, Bool.false_eq_true, if_false, if_neg q3.1, if_neg q3.2.1, if_neg q3.2.2.1, if_neg q3.2.2.2.1, if_neg q3.2.2.2.2]
end
end Mine.F7
end
theorem Mine.Off.t22 : True := by
  w_top off
  first | (walk1; done) | trivial
section
open Mine.Nst Mine.I2d
open PySem PySem.W PyProof.Rows PySem.Calls PySem.Spec



namespace Mine.I2w
section
variable {w : World} {p : Program} {loose : List Str} {mean : ExcName → Option Value} {mg mb : Str → Option Value}
  {dp un : Nat} {gd : Option (List Code)} {cn : Str} {cs : Scope} {a : Addr} {ccd : Value} {cl : List (Str × Addr)} {outer : List Env} {A₀ : Around} {base h₀ : Heap} {L : Addr} {m : Str → Option Value} {news : List (Addr × Obj)} {s : Shared}
    {Q E : Value → Shared → Prop}

noncomputable def cntF (n x : Int) : Nat := ((↑(Builtin.Int.intBits x) + n - 1).fdiv n).toNat
noncomputable def i2dOk (n x : Int) : Prop := (0 ≤ x ∧ x < 2 ^ 20) ∧ (1 ≤ n ∧ n ≤ 5) ∧ ((↑(Builtin.Int.intBits x) + n - 1).fdiv n = (cntF n x : Int)) ∧ cntF n x ≤ 4 ∧ (cntF n x = 0 ↔ x = 0) ∧
  0 ≤ Builtin.bitXor x (x.fdiv (2 ^ ((2 - 0) * n).toNat) * 2 ^ ((2 - 0) * n).toNat) ∧ Builtin.bitXor x (x.fdiv (2 ^ ((2 - 0) * n).toNat) * 2 ^ ((2 - 0) * n).toNat) < 2 ^ 20
noncomputable def i2dR (n x : Int) : List Int := i2dC n x (cntF n x)
noncomputable abbrev QI : Str := Str.ofString "_int2digits.<locals>.inner"
noncomputable abbrev tabI (c' : Addr) : Obj := tabObj #[rawInt 50, rawInt 4, Value.ref c']
theorem i2dR_len {n x : Int} (ok : i2dOk n x) : (i2dR n x).length ≤ 4 := by
  obtain ⟨_, _, _, a6, _⟩ := ok
  unfold i2dR
  generalize cntF n x = c at *
  have hc : c = 0 ∨ c = 1 ∨ c = 2 ∨ c = 3 ∨ c = 4 := by omega
  rcases hc with rfl | rfl | rfl | rfl | rfl <;> simp [i2dC]
theorem i2d_all {x n : Int} {t1 t2 : Tok} {ps : Array Value}
    (B : Below A₀ base outer h₀) (F : Fr h₀ L s.heap m) (X : (hd.heap_39 w.params).In h₀) (N : News h₀ L s.heap ((37, tabObj ps) :: news)) (T : Top p loose mean mg mb h₀) (hk : cs.kind = .function)
    (hd : dp + 5 < recursionLimit) (hu : un + 80 < cLine) (htab : TabOk 50 4 QI ps news) (ok : i2dOk n x) (hm : ∀ p ∈ news, p.1 ≠ 37)
    (hret : ∀ D vs k h' tk' c' (oc' : Obj) vs' (t' : Tok), Fr h₀ L h' m → News h₀ L h' ((D, listOf (List.toArray vs) k) :: (c', oc') :: (37, tabI c') :: news) → IntsAre vs (i2dR n x) → oc'.data = Data.fields vs' → vs'[1]? = some (Value.str QI t') → (∀ p ∈ news, p.1 < D) → 37 < D → ((ps = #[] ∧ (∀ p ∈ news, p.1 < c') ∧ D < c') ∨ (ps = #[rawInt 50, rawInt 4, .ref c'] ∧ (c', oc') ∈ news)) → Q (.ref D) { s with heap := h', toks := tk' }) :
    wpAny (model PySem.Challenge.rw_rw0037_01.row.prog w) (ktrTop dp un gd cn cs L a ccd cl outer) (call (.ref 42) [.int x t1, .int n t2]) Q E s := by
  obtain ⟨⟨a1, a2⟩, ⟨a3, a4⟩, a5, a6, a7, a8, a9⟩ := ok
  unfold i2dR at hret
  generalize cntF n x = c at *
  exact i2d_all0 B F X N T hk hd hu htab a1 a2 a3 a4 ⟨a5⟩ ⟨a6⟩ ⟨a7⟩ a8 a9 hm hret
theorem i2d_first {x n : Int} {t1 t2 : Tok} {all : List (Addr × Obj)} {gg : Obj → List (Addr × Obj)}
    (B : Below A₀ base outer h₀) (F : Fr h₀ L s.heap m) (X : (hd.heap_39 w.params).In h₀) (N : News h₀ L s.heap all) (U : UpdF 37 (tabObj #[]) all gg) (T : Top p loose mean mg mb h₀) (hk : cs.kind = .function)
    (hd : dp + 5 < recursionLimit) (hu : un + 80 < cLine) (ok : i2dOk n x)
    (hret : ∀ D vs k h' tk' c' (oc' : Obj) vs' (t' : Tok), Fr h₀ L h' m → News h₀ L h' ((D, listOf (List.toArray vs) k) :: (c', oc') :: gg (tabI c')) → IntsAre vs (i2dR n x) → (i2dR n x).length ≤ 4 → oc'.data = Data.fields vs' → vs'[1]? = some (Value.str QI t') → (∀ p ∈ all, p.1 < D) → (∀ p ∈ all, p.1 < c') → D < c' → Q (.ref D) { s with heap := h', toks := tk' }) :
    wpAny (model PySem.Challenge.rw_rw0037_01.row.prog w) (ktrTop dp un gd cn cs L a ccd cl outer) (call (.ref 42) [.int x t1, .int n t2]) Q E s := by
  obtain ⟨pre, post, rfl, hg, q1, q2⟩ := U.split
  refine i2d_all (ps := #[]) (news := pre ++ post) B F X (fun p hp => N p ?_) T hk hd hu (.inl rfl) ok (fun p hp => (List.mem_append.mp hp).elim (q1 p) (q2 p)) ?_
  · rcases List.mem_cons.mp hp with rfl | hp
    · exact List.mem_append_right _ (.head _)
    · rcases List.mem_append.mp hp with hp | hp
      · exact List.mem_append_left _ hp
      · exact List.mem_append_right _ (.tail _ hp)
  · intro D vs k h' tk' c' oc' vs' t' F' N' hi d1 d2 l1 l2 l3
    rcases l3 with ⟨_, l3, l4⟩ | ⟨e, _⟩
    · have below : ∀ z : Addr, 37 < z → (∀ p ∈ pre ++ post, p.1 < z) → ∀ p ∈ pre ++ (37, tabObj #[]) :: post, p.1 < z := by
        intro z hz hb p hp
        rcases List.mem_append.mp hp with hp | hp
        · exact hb p (List.mem_append_left _ hp)
        · rcases List.mem_cons.mp hp with rfl | hp
          · exact hz
          · exact hb p (List.mem_append_right _ hp)
      refine hret D vs k h' tk' c' oc' vs' t' F' (fun p hp => N' p ?_) hi (i2dR_len ok) d1 d2 (below D l2 l1) (below c' (Nat.lt_trans l2 l4) l3) l4
      rcases List.mem_cons.mp hp with rfl | hp
      · exact .head _
      · rcases List.mem_cons.mp hp with rfl | hp
        · exact .tail _ (.head _)
        · rw [hg] at hp
          rcases List.mem_append.mp hp with hp | hp
          · exact .tail _ (.tail _ (.tail _ (List.mem_append_left _ hp)))
          · rcases List.mem_cons.mp hp with rfl | hp
            · exact .tail _ (.tail _ (.head _))
            · exact .tail _ (.tail _ (.tail _ (List.mem_append_right _ hp)))
    · cases e
theorem i2d_hit {x n : Int} {t1 t2 : Tok} {c : Addr} {oc : Obj} {vc : Array Value} {tc : Tok}
    (B : Below A₀ base outer h₀) (F : Fr h₀ L s.heap m) (X : (hd.heap_39 w.params).In h₀) (N : News h₀ L s.heap news) (T : Top p loose mean mg mb h₀) (hk : cs.kind = .function)
    (hm : (37, tabI c) ∈ news) (hc : (c, oc) ∈ news) (hc1 : oc.data = Data.fields vc) (hc2 : vc[1]? = some (Value.str QI tc))
    (hd : dp + 5 < recursionLimit) (hu : un + 80 < cLine) (ok : i2dOk n x)
    (hret : ∀ D vs k h' tk', Fr h₀ L h' m → News h₀ L h' ((D, listOf (List.toArray vs) k) :: news) → IntsAre vs (i2dR n x) → (i2dR n x).length ≤ 4 → (∀ p ∈ news, p.1 < D) → Q (.ref D) { s with heap := h', toks := tk' }) :
    wpAny (model PySem.Challenge.rw_rw0037_01.row.prog w) (ktrTop dp un gd cn cs L a ccd cl outer) (call (.ref 42) [.int x t1, .int n t2]) Q E s := by
  have g37 := (N _ hm).1
  have hne : c ≠ 37 := fun e => by
    have := (N _ hc).1
    rw [show ((c, oc) : Addr × Obj).1 = 37 from e, g37] at this
    have e2 : tabI c = oc := Option.some.inj this
    rw [← e2] at hc1
    cases hc1
    simp [rawInt] at hc2
  refine i2d_all (ps := #[rawInt 50, rawInt 4, .ref c]) (news := news.filter fun q => decide (q.1 ≠ 37)) B F X (fun p hp => N p ?_) T hk hd hu (.inr ⟨c, oc, vc, tc, rfl, List.mem_filter.mpr ⟨hc, by simpa using hne⟩, hc1, hc2⟩) ok (fun p hp => by simpa using (List.mem_filter.mp hp).2) ?_
  · rcases List.mem_cons.mp hp with rfl | hp
    · exact hm
    · exact (List.mem_filter.mp hp).1
  · intro D vs k h' tk' c' oc' vs' t' F' N' hi d1 d2 l1 l2 l3
    have same : ∀ p ∈ news, p.1 = 37 → p = (37, tabI c) := fun p hp e => by
      have := (N p hp).1
      rw [e, g37] at this
      exact Prod.ext e (Option.some.inj this).symm
    have hcc : c' = c := by
      rcases l3 with ⟨e, _⟩ | ⟨e, _⟩
      · cases e
      · have := congrArg (fun a : Array Value => a[2]?) e
        simpa using this.symm
    subst hcc
    refine hret D vs k h' tk' F' (fun p hp => N' p ?_) hi (i2dR_len ok) (fun p hp => ?_)
    · rcases List.mem_cons.mp hp with rfl | hp
      · exact .head _
      · by_cases e : p.1 = 37
        · rw [same p hp e]; exact .tail _ (.tail _ (.head _))
        · exact .tail _ (.tail _ (.tail _ (List.mem_filter.mpr ⟨hp, by simpa using e⟩)))
    · by_cases e : p.1 = 37
      · rw [e]; exact l2
      · exact l1 p (List.mem_filter.mpr ⟨hp, by simpa using e⟩)
end
end Mine.I2w
end
theorem Mine.Off.t23 : True := by
  w_top off
  first | (walk1; done) | trivial
section
open Mine.Hi Mine.Nst Mine.I2d Mine.I2w Mine.Fz Mine.Fc
open PySem PySem.W PyProof.Rows PySem.Calls PyProof.V PySem.Spec



namespace Mine.F8
section
variable {w : World} {p : Program} {loose : List Str} {mean : ExcName → Option Value} {mg mb : Str → Option Value}
  {dp un : Nat} {gd : Option (List Code)} {cn : Str} {cs : Scope} {a : Addr} {ccd : Value} {cl : List (Str × Addr)} {outer : List Env} {A₀ : Around} {base h₀ : Heap} {L : Addr} {m : Str → Option Value} {news : List (Addr × Obj)} {s : Shared}
    {Q E : Value → Shared → Prop}

noncomputable def pkO (x0 x1 x2 : Int) : Prop := (x0 = 1 ∧ x1 ≠ 1 ∧ x2 ≠ 1) ∨ (x0 ≠ 1 ∧ x1 = 1 ∧ x2 ≠ 1) ∨ (x0 ≠ 1 ∧ x1 ≠ 1 ∧ x2 = 1)
noncomputable def pkF (x0 x1 : Int) : Nat := if x0 = 1 then 0 else if x1 = 1 then 1 else 2
noncomputable def pkS (x0 x1 : Int) (st : List Int × List Int) : List Int × List Int := (st.1.map (fun w => if w = st.1.getD (pkF x0 x1) 0 then w else 3 - st.1.getD (pkF x0 x1) 0 - w), st.1.getD (pkF x0 x1) 0 :: st.2)
noncomputable def pkN (S0 S1 : List Int) : Nat → List Int × List Int
  | 0 => ([0, 1, 2], [])
  | i + 1 => pkS (S0.getD (3 - i) 0) (S1.getD (3 - i) 0) (pkN S0 S1 i)
theorem pkN_inv (S0 S1 : List Int) : ∀ i, (∃ a b c, (pkN S0 S1 i).1 = [a, b, c] ∧ a ≠ b ∧ b ≠ c ∧ a ≠ c ∧ a + b + c = 3 ∧ 0 ≤ a ∧ a ≤ 2 ∧ 0 ≤ b ∧ b ≤ 2 ∧ 0 ≤ c ∧ c ≤ 2) ∧ (pkN S0 S1 i).2.length = i
  | 0 => ⟨⟨0, 1, 2, rfl, by decide, by decide, by decide, by decide, by decide, by decide, by decide, by decide, by decide, by decide⟩, rfl⟩
  | i + 1 => by
    refine Mine.Hi.hideG (fun G hG => ?_)
    obtain ⟨⟨a, b, c, e, h1, h2, h3, h4, h5, h6, h7, h8, h9, h10⟩, hl⟩ := pkN_inv S0 S1 i
    refine hG ?_
    clear hG
    unfold pkN
    refine ⟨?_, by simp only [pkS, List.length_cons, hl]⟩
    simp only [pkS, e]
    have hk : pkF (S0.getD (3 - i) 0) (S1.getD (3 - i) 0) = 0 ∨ pkF (S0.getD (3 - i) 0) (S1.getD (3 - i) 0) = 1 ∨ pkF (S0.getD (3 - i) 0) (S1.getD (3 - i) 0) = 2 := by
      unfold pkF; split
      · exact .inl rfl
      · split
        · exact .inr (.inl rfl)
        · exact .inr (.inr rfl)
    rcases hk with q | q | q
    · rw [q]
      refine ⟨a, c, b, ?_, by omega, by omega, by omega, by omega, by omega, by omega, by omega, by omega, by omega, by omega⟩
      simp only [List.map_cons, List.map_nil, List.getD_cons_zero, if_pos, if_neg (Ne.symm h1), if_neg (Ne.symm h3)]
      rw [show 3 - a - b = c by omega, show 3 - a - c = b by omega]
    · rw [q]
      refine ⟨c, b, a, ?_, by omega, by omega, by omega, by omega, by omega, by omega, by omega, by omega, by omega, by omega⟩
      simp only [List.map_cons, List.map_nil, List.getD_cons_zero, List.getD_cons_succ, if_pos, if_neg h1, if_neg (Ne.symm h2)]
      rw [show 3 - b - a = c by omega, show 3 - b - c = a by omega]
    · rw [q]
      refine ⟨b, a, c, ?_, by omega, by omega, by omega, by omega, by omega, by omega, by omega, by omega, by omega, by omega⟩
      simp only [List.map_cons, List.map_nil, List.getD_cons_zero, List.getD_cons_succ, if_pos, if_neg h2, if_neg h3]
      rw [show 3 - c - a = b by omega, show 3 - c - b = a by omega]
noncomputable def spS (P : Int) : List Int := List.take 4 (i2dR 1 (15 - P) ++ [0, 0, 0, 0])
theorem spS_len (P : Int) : (spS P).length = 4 := by
  unfold spS
  rw [List.length_take, List.length_append]
  simp only [List.length_cons, List.length_nil]
  omega
inductive S1J (g : Heap) (L : Addr) (s : Shared) (M : Str → Option Value) (cS : Addr) (news : List (Addr × Obj)) (P0 P1 P2 : Int) (f : Flow) (s' : Shared) : Prop
  | mk (ef : f = .next) (h : Heap) (tk : Nat) (S s0 s1 s2 : Addr) (v0 v1 v2 : List Value) (k0 k1 k2 : Nat) (oS : Obj) (es : s' = { s with heap := h, toks := tk }) (F : Fr g L h M) (N : News g L h ((S, LCg.lst [.ref s0, .ref s1, .ref s2]) :: (s0, listOf (List.toArray v0) k0) :: (s1, listOf (List.toArray v1) k1) :: (s2, listOf (List.toArray v2) k2) :: (cS, oS) :: news))
    (d : oS.data = Data.cell (some (.ref S))) (i : IntsAre v0 (spS P0) ∧ IntsAre v1 (spS P1) ∧ IntsAre v2 (spS P2)) (l1 : @LT.lt Nat _ cS s0) (l2 : @LT.lt Nat _ s0 s1) (l3 : @LT.lt Nat _ s1 s2) (l4 : @Ne Nat cS S) (l5 : @Ne Nat S s0) (l6 : @Ne Nat S s1) (l7 : @Ne Nat S s2) (l8 : ∀ p ∈ news, p.1 < s0) (l9 : ∀ p ∈ news, p.1 ≠ S) : S1J g L s M cS news P0 P1 P2 f s'
theorem s1_cut {M : Model} {A : Around} {env : Env} {st : Stmt} {g : Heap} {mm : Str → Option Value} {cS x1 x2 x3 x4 : Addr} {oC b1 b2 b3 b4 : Obj} {P0 P1 P2 : Int} {lp : Addr} {u0 u1 u2 : Tok} (_F : Fr g L s.heap mm) (_N : News g L s.heap [(x1, b1), (x2, b2), (cS, oC), (x3, b3), (x4, b4)]) (_hn : news = [(x1, b1), (x2, b2), (x3, b3), (x4, b4)]) (_hl : g.IsList lp #[.int P0 u0, .int P1 u1, .int P2 u2]) {Q : Flow → Shared → Prop} {E : Value → Shared → Prop}
    (step : wpAny M A (exec st env) (S1J g L s mm cS news P0 P1 P2) E s)
    (cont : ∀ h tk S s0 s1 s2 v0 v1 v2 k0 k1 k2 oS, Fr g L h mm → News g L h ((S, LCg.lst [.ref s0, .ref s1, .ref s2]) :: (s0, listOf (List.toArray v0) k0) :: (s1, listOf (List.toArray v1) k1) :: (s2, listOf (List.toArray v2) k2) :: (cS, oS) :: news) →
      oS.data = Data.cell (some (.ref S)) → IntsAre v0 (spS P0) → IntsAre v1 (spS P1) → IntsAre v2 (spS P2) → @LT.lt Nat _ cS s0 → @LT.lt Nat _ s0 s1 → @LT.lt Nat _ s1 s2 → @Ne Nat cS S → @Ne Nat S s0 → @Ne Nat S s1 → @Ne Nat S s2 → (∀ p ∈ news, p.1 < s0) → (∀ p ∈ news, p.1 ≠ S) → Q .next { s with heap := h, toks := tk }) :
    wpAny M A (exec st env) Q E s := by
  refine wpAny_mono step ?_ (fun _ _ e => e)
  rintro f s' ⟨rfl, h, tk, S, s0, s1, s2, v0, v1, v2, k0, k1, k2, oS, rfl, F, N, d, ⟨i0, i1, i2⟩, l1, l2, l3, l4, l5, l6, l7, l8, l9⟩
  exact cont h tk S s0 s1 s2 v0 v1 v2 k0 k1 k2 oS F N d i0 i1 i2 l1 l2 l3 l4 l5 l6 l7 l8 l9
theorem s1J_mk {g h : Heap} {L S s0 s1 s2 cS : Addr} {M : Str → Option Value} {P0 P1 P2 : Int} {v0 v1 v2 : List Value} {k0 k1 k2 tk : Nat} {oS : Obj} {all news : List (Addr × Obj)} (F : Fr g L h M) (N : News g L h all) (m0 : (S, LCg.lst [.ref s0, .ref s1, .ref s2]) ∈ all) (m1 : (s0, listOf (List.toArray v0) k0) ∈ all) (m2 : (s1, listOf (List.toArray v1) k1) ∈ all) (m3 : (s2, listOf (List.toArray v2) k2) ∈ all) (m4 : (cS, oS) ∈ all) (mn : ∀ p ∈ news, p ∈ all)
    (d : oS.data = Data.cell (some (.ref S))) (i0 : IntsAre v0 (spS P0)) (i1 : IntsAre v1 (spS P1)) (i2 : IntsAre v2 (spS P2)) (l1 : @LT.lt Nat _ cS s0) (l2 : @LT.lt Nat _ s0 s1) (l3 : @LT.lt Nat _ s1 s2) (l4 : @Ne Nat cS S) (l5 : @Ne Nat S s0) (l6 : @Ne Nat S s1) (l7 : @Ne Nat S s2) (l8 : ∀ p ∈ news, p.1 < s0) (l9 : ∀ p ∈ news, p.1 ≠ S) : S1J g L s M cS news P0 P1 P2 .next { s with heap := h, toks := tk } :=
  ⟨rfl, h, tk, S, s0, s1, s2, v0, v1, v2, k0, k1, k2, oS, rfl, F, fun p hp => N p (by
    rcases List.mem_cons.mp hp with rfl | hp
    · exact m0
    rcases List.mem_cons.mp hp with rfl | hp
    · exact m1
    rcases List.mem_cons.mp hp with rfl | hp
    · exact m2
    rcases List.mem_cons.mp hp with rfl | hp
    · exact m3
    rcases List.mem_cons.mp hp with rfl | hp
    · exact m4
    exact mn p hp), d, ⟨i0, i1, i2⟩, l1, l2, l3, l4, l5, l6, l7, l8, l9⟩
theorem all4 {q : Addr × Obj → Prop} {a b c d : Addr × Obj} (h1 : q a) (h2 : q b) (h3 : q c) (h4 : q d) : ∀ p ∈ [a, b, c, d], q p := fun p hp => by
  rcases List.mem_cons.mp hp with rfl | hp
  · exact h1
  rcases List.mem_cons.mp hp with rfl | hp
  · exact h2
  rcases List.mem_cons.mp hp with rfl | hp
  · exact h3
  rw [List.mem_singleton.mp hp]; exact h4
theorem four_lt {x1 x2 x3 x4 b : Addr} {o1 o2 o3 o4 : Obj} (h1 : @LT.lt Nat _ x1 b) (h2 : @LT.lt Nat _ x2 b) (h3 : @LT.lt Nat _ x3 b) (h4 : @LT.lt Nat _ x4 b) : ∀ p ∈ [(x1, o1), (x2, o2), (x3, o3), (x4, o4)], p.1 < b := all4 (q := fun p => p.1 < b) h1 h2 h3 h4
theorem four_ne {x1 x2 x3 x4 b : Addr} {o1 o2 o3 o4 : Obj} (h1 : @Ne Nat x1 b) (h2 : @Ne Nat x2 b) (h3 : @Ne Nat x3 b) (h4 : @Ne Nat x4 b) : ∀ p ∈ [(x1, o1), (x2, o2), (x3, o3), (x4, o4)], p.1 ≠ b := all4 (q := fun p => p.1 ≠ b) h1 h2 h3 h4
noncomputable def ElJ (g : Heap) (L : Addr) (s : Shared) (mm : Str → Option Value) (all : List (Addr × Obj)) (P : Int) (v : Value) (s' : Shared) : Prop :=
  ∃ h tk D vs k, v = .ref D ∧ s' = { s with heap := h, toks := tk } ∧ Fr g L h mm ∧ News g L h ((D, listOf (List.toArray vs) k) :: all) ∧ IntsAre vs (spS P) ∧ (∀ p ∈ all, p.1 < D)
noncomputable def ElSpec (prog : Program) (w : World) (A : Around) (sc : Scope) (cells : List (Str × Addr)) (env : Env) (elt : PySem.Expr) (g : Heap) (L : Addr) (mm : Str → Option Value) (k1 k2 : Addr × Obj) : Prop :=
  ∀ (E : Value → Shared → Prop) (I : Addr) (oI : Obj) (C : Addr) (oC : Obj) (D : Addr) (oD : Obj) (nw : List (Addr × Obj)) (m' : Str → Option Value) (P : Int) (u : Tok) (s : Shared), LCg.NsObj oC m' → m' (Str.ofString "part") = some (.int P u) → i2dOk 1 (15 - P) → Fr g L s.heap mm → News g L s.heap ((I, oI) :: (C, oC) :: (D, oD) :: nw) → k1 ∈ nw → k2 ∈ nw →
    wpAny (model prog w) A (eval elt (compEnvC sc cells C env)) (ElJ g L s mm ((I, oI) :: (C, oC) :: (D, oD) :: nw) P) E s
theorem el_with {prog : Program} {A : Around} {env : Env} {elt tgt : PySem.Expr} {gens : List Comprehension} {sc : Scope} {pos pos2 : Pos} {g : Heap} {L : Addr} {mm : Str → Option Value} {Q : Flow → Shared → Prop} (cells : List (Str × Addr)) (k1 k2 : Addr × Obj) (_F : Fr g L s.heap mm)
    (spec : ElSpec prog w A sc cells env elt g L mm k1 k2) (go : ElSpec prog w A sc cells env elt g L mm k1 k2 → wpAny (model prog w) A (exec (Stmt.Assign [tgt] (Expr.ListComp elt gens sc pos) pos2) env) Q E s) : wpAny (model prog w) A (exec (Stmt.Assign [tgt] (Expr.ListComp elt gens sc pos) pos2) env) Q E s := go spec
theorem el_use {prog : Program} {A : Around} {env : Env} {elt : PySem.Expr} {sc : Scope} {cells : List (Str × Addr)} {g : Heap} {L : Addr} {mm m' : Str → Option Value} {k1 k2 : Addr × Obj} {I C D : Addr} {oI oC oD : Obj} {nw : List (Addr × Obj)} {P : Int} {u : Tok} (H : ElSpec prog w A sc cells env elt g L mm k1 k2)
    (hC : LCg.NsObj oC m') (hx : m' (Str.ofString "part") = some (.int P u)) (ok : i2dOk 1 (15 - P)) (F : Fr g L s.heap mm) (N : News g L s.heap ((I, oI) :: (C, oC) :: (D, oD) :: nw)) (h1 : k1 ∈ nw) (h2 : k2 ∈ nw)
    (cont : ∀ h tk R vs k, Fr g L h mm → News g L h ((R, listOf (List.toArray vs) k) :: (I, oI) :: (C, oC) :: (D, oD) :: nw) → IntsAre vs (spS P) → (∀ p ∈ ((I, oI) :: (C, oC) :: (D, oD) :: nw), p.1 < R) → Q (.ref R) { s with heap := h, toks := tk }) :
    wpAny (model prog w) A (eval elt (compEnvC sc cells C env)) Q E s := by
  refine wpAny_mono (H E I oI C oC D oD nw m' P u s hC hx ok F N h1 h2) ?_ (fun _ _ e => e)
  rintro v s' ⟨h, tk, R, vs, k, rfl, rfl, F', N', i, l⟩
  exact cont h tk R vs k F' N' i l
theorem elJ_mk {g h : Heap} {L R I C D : Addr} {oI oC oD : Obj} {nw : List (Addr × Obj)} {mm : Str → Option Value} {vs : List Value} {k tk : Nat} {P : Int} {g1 g2 g3 : Addr × Obj} (F : Fr g L h mm) (N : News g L h ((R, listOf (List.toArray vs) k) :: g1 :: g2 :: g3 :: (I, oI) :: (C, oC) :: (D, oD) :: nw)) (i : IntsAre vs (spS P))
    (l : g1.1 < R ∧ g2.1 < R ∧ g3.1 < R ∧ I < R ∧ C < R ∧ D < R ∧ AllLt R nw) : ElJ g L s mm ((I, oI) :: (C, oC) :: (D, oD) :: nw) P (.ref R) { s with heap := h, toks := tk } :=
  ⟨h, tk, R, vs, k, rfl, rfl, F, fun p hp => N p (by
    rcases List.mem_cons.mp hp with rfl | hp
    · exact .head _
    exact .tail _ (.tail _ (.tail _ (.tail _ hp)))), i, List.forall_mem_cons.mpr ⟨l.2.2.2.1, List.forall_mem_cons.mpr ⟨l.2.2.2.2.1, List.forall_mem_cons.mpr ⟨l.2.2.2.2.2.1, tb_ltOf l.2.2.2.2.2.2⟩⟩⟩⟩
inductive PInv (M : Str → Option Value) (cX cY : Addr) (nt : List (Addr × Obj)) (S0 S1 : List Int) (i : Nat) (m' : Str → Option Value) (rest : List (Addr × Obj)) : Prop
  | mk (W R : Addr) (vW vR : List Value) (kW kR : Nat) (oX oY : Obj) (u : Str → Option Value) (zX zY : Option Value) (em : m' = fun y => if y = Str.ofString "pegs" then some (.ref R) else if y = Str.ofString "wishes" then some (.ref W) else if y = Str.ofString "owners" then u y else M y)
    (er : rest = (R, listOf (List.toArray vR) kR) :: (W, listOf (List.toArray vW) kW) :: (cX, oX) :: (cY, oY) :: nt)
    (iW : IntsAre vW (pkN S0 S1 i).1) (iR : IntsAre vR (pkN S0 S1 i).2) (dX : oX.data = Data.cell zX) (dY : oY.data = Data.cell zY) (q1 : @Ne Nat W R ∧ @Ne Nat cX W ∧ @Ne Nat cY W) (q2 : ∀ p ∈ nt, p.1 ≠ W) (q3 : @LT.lt Nat _ cX R ∧ @LT.lt Nat _ cY R) (q4 : ∀ p ∈ nt, p.1 < R) : PInv M cX cY nt S0 S1 i m' rest
theorem all2 {q : Addr × Obj → Prop} {a b : Addr × Obj} (h1 : q a) (h2 : q b) : ∀ p ∈ [a, b], q p := fun p hp => by
  rcases List.mem_cons.mp hp with rfl | hp
  · exact h1
  rw [List.mem_singleton.mp hp]; exact h2
theorem news_join {h' : Heap} {c : Addr} {oc : Obj} (N : News h₀ L s.heap news) (hm : (37, tabI c) ∈ news) (hc : (c, oc) ∈ news) (k : News h₀ L h' [(37, tabI c), (c, oc)]) (b : News h₀ L h' (news.filter fun q => decide (q.1 ≠ 37) && decide (q.1 ≠ c))) : News h₀ L h' news := fun p hp => by
  by_cases e : p.1 = 37
  · have e2 : p = (37, tabI c) := Prod.ext e (Option.some.inj (by rw [← (N p hp).1, ← (N _ hm).1, e]))
    rw [e2]; exact k _ (.head _)
  · by_cases e3 : p.1 = c
    · have e2 : p = (c, oc) := Prod.ext e3 (Option.some.inj (by rw [← (N p hp).1, ← (N _ hc).1, e3]))
      rw [e2]; exact k _ (.tail _ (.head _))
    · exact b p (List.mem_filter.mpr ⟨hp, by simp [e, e3]⟩)
theorem news_consJ {h' : Heap} {p : Addr × Obj} {tl : List (Addr × Obj)} (a : News h₀ L h' (p :: tl)) (b : News h₀ L h' news) : News h₀ L h' (p :: news) := fun q hq => by
  rcases List.mem_cons.mp hq with rfl | hq
  · exact a _ (.head _)
  · exact b q hq
theorem below_join {c D L' : Addr} {oc : Obj} (_N : News h₀ L s.heap news) (_hm : (37, tabI c) ∈ news) (_hc : (c, oc) ∈ news) (low : ∀ q ∈ news.filter fun q => decide (q.1 ≠ 37) && decide (q.1 ≠ c), q.1 < L') (h1 : @LT.lt Nat _ 37 D) (h2 : @LT.lt Nat _ c D) (h3 : @LT.lt Nat _ L' D) : ∀ p ∈ news, p.1 < D := fun p hp => by
  by_cases e : p.1 = 37
  · rw [e]; exact h1
  · by_cases e3 : p.1 = c
    · rw [e3]; exact h2
    · exact Nat.lt_trans (low p (List.mem_filter.mpr ⟨hp, by simp [e, e3]⟩)) h3
theorem pk_next {S0 S1 : List Int} {i dn : Nat} {a b c x0 x1 : Int} (e : (pkN S0 S1 i).1 = [a, b, c]) (hd : 3 - i = dn) (h0 : S0.getD dn 0 = x0) (h1 : S1.getD dn 0 = x1) : pkN S0 S1 (i + 1) = ([a, b, c].map (fun w => if w = [a, b, c].getD (pkF x0 x1) 0 then w else 3 - [a, b, c].getD (pkF x0 x1) 0 - w), [a, b, c].getD (pkF x0 x1) 0 :: (pkN S0 S1 i).2) := by
  show pkS _ _ _ = _
  rw [hd, h0, h1]
  unfold pkS
  rw [e]
theorem pk_ways {x0 x1 x2 : Int} (o : pkO x0 x1 x2) : ∃ kk : Int, 0 ≤ kk ∧ kk < 3 ∧ kk.toNat = pkF x0 x1 ∧ ((kk = 0 ∧ x0 = 1 ∧ x1 ≠ 1 ∧ x2 ≠ 1) ∨ (kk = 1 ∧ x0 ≠ 1 ∧ x1 = 1 ∧ x2 ≠ 1) ∨ (kk = 2 ∧ x0 ≠ 1 ∧ x1 ≠ 1 ∧ x2 = 1)) := by
  unfold pkF
  rcases o with ⟨h0, h1, h2⟩ | ⟨h0, h1, h2⟩ | ⟨h0, h1, h2⟩
  · exact ⟨0, by decide, by decide, by rw [if_pos h0]; rfl, .inl ⟨rfl, h0, h1, h2⟩⟩
  · exact ⟨1, by decide, by decide, by rw [if_neg h0, if_pos h1]; rfl, .inr (.inl ⟨rfl, h0, h1, h2⟩)⟩
  · exact ⟨2, by decide, by decide, by rw [if_neg h0, if_neg h1]; rfl, .inr (.inr ⟨rfl, h0, h1, h2⟩)⟩
theorem pk_en {S0 S1 : List Int} {i dn : Nat} {a b c x0 x1 kk pv : Int} (e : (pkN S0 S1 i).1 = [a, b, c]) (hd : 3 - i = dn) (h0 : S0.getD dn 0 = x0) (h1 : S1.getD dn 0 = x1) (ek : kk.toNat = pkF x0 x1) (hp : [a, b, c].getD kk.toNat 0 = pv) : pkN S0 S1 (i + 1) = ([if a = pv then a else 3 - pv - a, if b = pv then b else 3 - pv - b, if c = pv then c else 3 - pv - c], pv :: (pkN S0 S1 i).2) := by
  rw [pk_next e hd h0 h1, ← ek, hp]; rfl
noncomputable def OwJ (g : Heap) (L : Addr) (s : Shared) (mm : Str → Option Value) (rest : List (Addr × Obj)) (k : Int) (f : Flow) (s' : Shared) : Prop :=
  f = .next ∧ ∃ h tk O t, s' = { s with heap := h, toks := tk } ∧ Fr g L h (fun y => if y = Str.ofString "owners" then some (.ref O) else mm y) ∧ News g L h ((O, LCg.lst [.int k t]) :: rest) ∧ LCg.Off1 O rest
theorem ow_cut {M : Model} {A : Around} {env : Env} {st : Stmt} {g : Heap} {L : Addr} {mm : Str → Option Value} {rest : List (Addr × Obj)} {Q : Flow → Shared → Prop} (k : Int) (_F : Fr g L s.heap mm) (_N : News g L s.heap rest)
    (step : wpAny M A (exec st env) (OwJ g L s mm rest k) E s)
    (cont : ∀ h tk O t, Fr g L h (fun y => if y = Str.ofString "owners" then some (.ref O) else mm y) → News g L h ((O, LCg.lst [.int k t]) :: rest) → LCg.Off1 O rest → Q .next { s with heap := h, toks := tk }) :
    wpAny M A (exec st env) Q E s := by
  refine wpAny_mono step ?_ (fun _ _ e => e)
  rintro f s' ⟨rfl, h, tk, O, t, rfl, F, N, o⟩
  exact cont h tk O t F N o
theorem owJ_mk {g h : Heap} {L O : Addr} {mm : Str → Option Value} {rest : List (Addr × Obj)} {k : Int} {t : Tok} {tk : Nat} (F : Fr g L h (fun y => if y = Str.ofString "owners" then some (.ref O) else mm y)) (N : News g L h ((O, LCg.lst [.int k t]) :: rest)) (o : LCg.Off1 O rest) : OwJ g L s mm rest k .next { s with heap := h, toks := tk } :=
  ⟨rfl, h, tk, O, t, rfl, F, N, o⟩
noncomputable def OJ (c : Bool) (s : Shared) (b : Bool) (s' : Shared) : Prop := b = c ∧ ∃ tk, s' = { s with toks := tk }
noncomputable def OSpec (prog : Program) (w : World) (A : Around) (sc : Scope) (cells : List (Str × Addr)) (env : Env) (ct : PySem.Expr) (g : Heap) (L : Addr) (mm : Str → Option Value) (ks : List (Addr × Obj)) (x : Str) (c : Int → Bool) : Prop :=
  ∀ (E : Value → Shared → Prop) (I : Addr) (oI : Obj) (C : Addr) (oC : Obj) (D : Addr) (oD : Obj) (m' : Str → Option Value) (v : Int) (u : Tok) (s : Shared), LCg.NsObj oC m' → m' x = some (.int v u) → 0 ≤ v → v < 3 → Fr g L s.heap mm → News g L s.heap ((I, oI) :: (C, oC) :: (D, oD) :: ks) →
    wpAny (model prog w) A (isTrue ct (compEnvC sc cells C env) (eval ct (compEnvC sc cells C env))) (OJ (c v) s) E s
theorem o_with {prog : Program} {A : Around} {env : Env} {elt iter ct : PySem.Expr} {tgt : PySem.Expr} {x : Str} {px pos pos2 : Pos} {sc : Scope} {g : Heap} {L : Addr} {mm : Str → Option Value} {Q : Flow → Shared → Prop} {n1 n2 n3 n4 : Addr × Obj} {ks : List (Addr × Obj)} (cells : List (Str × Addr)) (c : Int → Bool) (_F : Fr g L s.heap mm) (_N : News g L s.heap (n1 :: n2 :: n3 :: n4 :: ks))
    (spec : OSpec prog w A sc cells env ct g L mm ks x c) (go : OSpec prog w A sc cells env ct g L mm ks x c → wpAny (model prog w) A (exec (Stmt.Assign [tgt] (Expr.ListComp elt [⟨.Name x px, iter, [ct], 0⟩] sc pos) pos2) env) Q E s) :
    wpAny (model prog w) A (exec (Stmt.Assign [tgt] (Expr.ListComp elt [⟨.Name x px, iter, [ct], 0⟩] sc pos) pos2) env) Q E s := go spec
section
variable {prog : Program} {A : Around} {env : Env} {ct : PySem.Expr} {sc : Scope} {cells : List (Str × Addr)} {g : Heap} {L : Addr} {mm m' : Str → Option Value} {ks nw : List (Addr × Obj)} {x : Str} {c : Int → Bool} {I C D : Addr} {oI oC oD : Obj} {v : Int} {u : Tok} {Tt Gg : Shared → Prop}
theorem o_use_t (H : OSpec prog w A sc cells env ct g L mm ks x c) (hC : LCg.NsObj oC m') (hx : m' x = some (.int v u)) (hc : c v = true) (h0 : 0 ≤ v) (h3 : v < 3) (F : Fr g L s.heap mm) (N : News g L s.heap ((I, oI) :: (C, oC) :: (D, oD) :: nw)) (hk : ∀ p ∈ ks, p ∈ nw) (cont : ∀ tk, Tt { s with toks := tk }) :
    wpAny (model prog w) A (isTrue ct (compEnvC sc cells C env) (eval ct (compEnvC sc cells C env))) (fun ok s' => if ok = true then Tt s' else Gg s') E s := by
  refine wpAny_mono (H E I oI C oC D oD m' v u s hC hx h0 h3 F (fun p hp => N p ?_)) ?_ (fun _ _ e => e)
  · rcases List.mem_cons.mp hp with rfl | hp
    · exact .head _
    rcases List.mem_cons.mp hp with rfl | hp
    · exact .tail _ (.head _)
    rcases List.mem_cons.mp hp with rfl | hp
    · exact .tail _ (.tail _ (.head _))
    exact .tail _ (.tail _ (.tail _ (hk p hp)))
  · rintro b s' ⟨rfl, tk, rfl⟩
    rw [if_pos hc]
    exact cont tk
theorem o_use_f (H : OSpec prog w A sc cells env ct g L mm ks x c) (hC : LCg.NsObj oC m') (hx : m' x = some (.int v u)) (hc : ¬ c v = true) (h0 : 0 ≤ v) (h3 : v < 3) (F : Fr g L s.heap mm) (N : News g L s.heap ((I, oI) :: (C, oC) :: (D, oD) :: nw)) (hk : ∀ p ∈ ks, p ∈ nw) (cont : ∀ tk, Gg { s with toks := tk }) :
    wpAny (model prog w) A (isTrue ct (compEnvC sc cells C env) (eval ct (compEnvC sc cells C env))) (fun ok s' => if ok = true then Tt s' else Gg s') E s := by
  refine wpAny_mono (H E I oI C oC D oD m' v u s hC hx h0 h3 F (fun p hp => N p ?_)) ?_ (fun _ _ e => e)
  · rcases List.mem_cons.mp hp with rfl | hp
    · exact .head _
    rcases List.mem_cons.mp hp with rfl | hp
    · exact .tail _ (.head _)
    rcases List.mem_cons.mp hp with rfl | hp
    · exact .tail _ (.tail _ (.head _))
    exact .tail _ (.tail _ (.tail _ (hk p hp)))
  · rintro b s' ⟨rfl, tk, rfl⟩
    rw [if_neg hc]
    exact cont tk
end
theorem osel {s0 s1 s2 : Addr} {v0 v1 v2 : List Value} {k0 k1 k2 : Nat} {nt : List (Addr × Obj)} {P0 P1 P2 v x0 x1 x2 : Int} {d : Nat} (h0 : 0 ≤ v) (h3 : v < 3) (a0 : (s0, listOf (List.toArray v0) k0) ∈ nt) (a1 : (s1, listOf (List.toArray v1) k1) ∈ nt) (a2 : (s2, listOf (List.toArray v2) k2) ∈ nt) (i0 : IntsAre v0 (spS P0)) (i1 : IntsAre v1 (spS P1)) (i2 : IntsAre v2 (spS P2)) (e0 : (spS P0).getD d 0 = x0) (e1 : (spS P1).getD d 0 = x1) (e2 : (spS P2).getD d 0 = x2) :
    ∃ sx vx kx P, ([.ref s0, .ref s1, .ref s2] : List Value)[v.toNat]? = some (.ref sx) ∧ (sx, listOf (List.toArray vx) kx) ∈ nt ∧ IntsAre vx (spS P) ∧ (spS P).getD d 0 = [x0, x1, x2].getD v.toNat 0 := by
  have : v = 0 ∨ v = 1 ∨ v = 2 := by omega
  rcases this with rfl | rfl | rfl
  · exact ⟨s0, v0, k0, P0, rfl, a0, i0, e0⟩
  · exact ⟨s1, v1, k1, P1, rfl, a1, i1, e1⟩
  · exact ⟨s2, v2, k2, P2, rfl, a2, i2, e2⟩
noncomputable def IfJ (s : Shared) (r : Int) (v : Value) (s' : Shared) : Prop := ∃ t tk, v = .int r t ∧ s' = { s with toks := tk }
theorem pend {g h' : Heap} {I : Addr} {oI : Obj} {tk : Nat} {Q : Flow → Shared → Prop} {M u m₃ : Str → Option Value} {a1 a2 : Option Value} {cX cY W R O : Addr} {oX oY : Obj} {vR : List Value} {kR : Nat} {S0 S1 : List Int} {a b d f : Int} {t0 t1 t2 : Tok} {zX zY : Option Value} {i : Nat} {pg pg' : List Int} {g1 g2 g3 g4 : Addr × Obj} {nt : List (Addr × Obj)}
    (F : Fr g L h' m₃) (N : News g L h' ((W, LCg.lst [.int a t0, .int b t1, .int d t2]) :: (R, listOf (List.toArray vR) kR) :: g1 :: g2 :: (I, oI) :: g3 :: g4 :: (cX, oX) :: (cY, oY) :: nt))
    (e : pkN S0 S1 (i + 1) = ([a, b, d], f :: pg)) (hR : IntsAre vR pg') (eR : pg' = f :: pg) (hX : oX.data = Data.cell zX) (hY : oY.data = Data.cell zY) (h1 : @Ne Nat W R) (x1 : @Ne Nat cX W) (x2 : @Ne Nat cY W) (h2 : ∀ p ∈ nt, p.1 ≠ W) (h4 : @LT.lt Nat _ cX R) (h5 : @LT.lt Nat _ cY R) (h6 : ∀ p ∈ nt, p.1 < R)
    (oR : @Ne Nat R I) (oW : @Ne Nat W I) (ocX : @Ne Nat cX I) (ocY : @Ne Nat cY I) (ont : ∀ p ∈ nt, p.1 ≠ I)
    (hm : m₃ = fun y => if y = Str.ofString "wishes" then some (.ref W) else if y = Str.ofString "pegs" then some (.ref R) else if y = Str.ofString "owners" then some (.ref O) else if y = Str.ofString "pegs" then a1 else if y = Str.ofString "wishes" then a2 else if y = Str.ofString "owners" then u y else M y) :
    ForJ (fun s₃ => ∃ h₃ tk₃ m₃ rest₃, s₃ = { s with heap := h₃, toks := tk₃ } ∧ Fr g L h₃ m₃ ∧ News g L h₃ ((I, oI) :: rest₃) ∧ (∀ p ∈ rest₃, p.1 ≠ I) ∧ PInv M cX cY nt S0 S1 (i + 1) m₃ rest₃) Q .next { s with heap := h', toks := tk } := by
  refine ⟨h', tk, _, _, rfl, F, fun p hp => N p ?_, List.forall_mem_cons.mpr ⟨oR, List.forall_mem_cons.mpr ⟨oW, List.forall_mem_cons.mpr ⟨ocX, List.forall_mem_cons.mpr ⟨ocY, ont⟩⟩⟩⟩, W, R, [.int a t0, .int b t1, .int d t2], vR, 3, kR, oX, oY, fun _ => some (.ref O), zX, zY, ?_, rfl, ?_, ?_, hX, hY, ⟨h1, x1, x2⟩, h2, ⟨h4, h5⟩, h6⟩
  · rcases List.mem_cons.mp hp with rfl | hp
    · exact .tail _ (.tail _ (.tail _ (.tail _ (.head _))))
    rcases List.mem_cons.mp hp with rfl | hp
    · exact .tail _ (.head _)
    rcases List.mem_cons.mp hp with rfl | hp
    · exact .head _
    exact .tail _ (.tail _ (.tail _ (.tail _ (.tail _ (.tail _ (.tail _ hp))))))
  · rw [hm]
    funext y
    by_cases q1 : y = Str.ofString "wishes"
    · subst q1; rfl
    · by_cases q2 : y = Str.ofString "pegs"
      · subst q2; rfl
      · by_cases q3 : y = Str.ofString "owners"
        · subst q3; rfl
        · simp only [if_neg q1, if_neg q2, if_neg q3]
  · rw [e]; exact .cons _ _ (.cons _ _ (.cons _ _ .nil))
  · rw [e]; exact eR ▸ hR
theorem off1_mem {D : Addr} : ∀ (l : List (Addr × Obj)), LCg.Off1 D l → ∀ p ∈ l, p.1 ≠ D := fun l => by
  induction l with
  | nil => intro _ p hp; cases hp
  | cons a r ih =>
    intro h q hq
    cases hq with
    | head => exact h.1
    | tail _ hq => exact ih h.2 q hq
theorem pend2 {g h' : Heap} {I : Addr} {oI : Obj} {tk : Nat} {Q : Flow → Shared → Prop} {M u m₃ : Str → Option Value} {a1 a2 : Option Value} {cX cY W R O : Addr} {oX oY : Obj} {vR : List Value} {kR : Nat} {S0 S1 : List Int} {a b d f : Int} {t0 t1 t2 : Tok} {zX zY : Option Value} {i : Nat} {pg pg' : List Int} {g1 g2 g3 g4 : Addr × Obj} {nt : List (Addr × Obj)}
    (F : Fr g L h' m₃) (N : News g L h' ((W, LCg.lst [.int a t0, .int b t1, .int d t2]) :: (R, listOf (List.toArray vR) kR) :: g1 :: g2 :: (I, oI) :: g3 :: g4 :: (cX, oX) :: (cY, oY) :: nt))
    (e : pkN S0 S1 (i + 1) = ([a, b, d], f :: pg)) (hR : IntsAre vR pg') (eR : pg' = f :: pg) (hX : oX.data = Data.cell zX) (hY : oY.data = Data.cell zY) (o : R ≠ W ∧ g1.1 ≠ W ∧ g2.1 ≠ W ∧ I ≠ W ∧ g3.1 ≠ W ∧ g4.1 ≠ W ∧ cX ≠ W ∧ cY ≠ W ∧ LCg.Off1 W nt) (l : g1.1 < R ∧ g2.1 < R ∧ I < R ∧ g3.1 < R ∧ g4.1 < R ∧ cX < R ∧ cY < R ∧ AllLt R nt)
    (ocX : cX ≠ I) (ocY : cY ≠ I) (ont : ∀ p ∈ nt, p.1 ≠ I)
    (hm : m₃ = fun y => if y = Str.ofString "wishes" then some (.ref W) else if y = Str.ofString "pegs" then some (.ref R) else if y = Str.ofString "owners" then some (.ref O) else if y = Str.ofString "pegs" then a1 else if y = Str.ofString "wishes" then a2 else if y = Str.ofString "owners" then u y else M y) :
    ForJ (fun s₃ => ∃ h₃ tk₃ m₃ rest₃, s₃ = { s with heap := h₃, toks := tk₃ } ∧ Fr g L h₃ m₃ ∧ News g L h₃ ((I, oI) :: rest₃) ∧ (∀ p ∈ rest₃, p.1 ≠ I) ∧ PInv M cX cY nt S0 S1 (i + 1) m₃ rest₃) Q .next { s with heap := h', toks := tk } := by
  obtain ⟨o1, _, _, o4, _, _, o7, o8, o9⟩ := o
  obtain ⟨_, _, l3, _, _, l6, l7, l8⟩ := l
  exact pend F N e hR eR hX hY (Ne.symm o1) o7 o8 (off1_mem _ o9) l6 l7 (tb_ltOf l8) (Nat.ne_of_gt l3) (Ne.symm o4) ocX ocY ont hm
/-- the ledger behind the first statement, its dull part under one letter -/
theorem tail_abs {g h : Heap} {S s0 s1 s2 cS cX cY c : Addr} {oS oX oY oc b1 b2 b3 : Obj} {t37 s₀ : Obj} (N : News g L h [(S, b1), (s0, b2), (s1, b3), (s2, oc), (cS, oS), (cX, oX), (cY, oY), (37, t37), (c, s₀)])
    (eX : ∀ p ∈ [(S, b1), (s0, b2), (s1, b3), (s2, oc), (cS, oS), (37, t37), (c, s₀)], p.1 ≠ cX) (eY : ∀ p ∈ [(S, b1), (s0, b2), (s1, b3), (s2, oc), (cS, oS), (37, t37), (c, s₀)], p.1 ≠ cY) :
    ∃ nt, (S, b1) ∈ nt ∧ (s0, b2) ∈ nt ∧ (s1, b3) ∈ nt ∧ (s2, oc) ∈ nt ∧ (cS, oS) ∈ nt ∧ (37, t37) ∈ nt ∧ (c, s₀) ∈ nt ∧ (∀ p ∈ nt, p.1 ≠ cX) ∧ (∀ p ∈ nt, p.1 ≠ cY) ∧ News g L h ((cX, oX) :: (cY, oY) :: nt) :=
  ⟨[(S, b1), (s0, b2), (s1, b3), (s2, oc), (cS, oS), (37, t37), (c, s₀)], .head _, .tail _ (.head _), .tail _ (.tail _ (.head _)), .tail _ (.tail _ (.tail _ (.head _))), .tail _ (.tail _ (.tail _ (.tail _ (.head _)))), .tail _ (.tail _ (.tail _ (.tail _ (.tail _ (.head _))))), .tail _ (.tail _ (.tail _ (.tail _ (.tail _ (.tail _ (.head _)))))), eX, eY, fun p hp => N p (by
    rcases List.mem_cons.mp hp with rfl | hp
    · exact .tail _ (.tail _ (.tail _ (.tail _ (.tail _ (.head _)))))
    rcases List.mem_cons.mp hp with rfl | hp
    · exact .tail _ (.tail _ (.tail _ (.tail _ (.tail _ (.tail _ (.head _))))))
    rcases List.mem_cons.mp hp with rfl | hp
    · exact .head _
    rcases List.mem_cons.mp hp with rfl | hp
    · exact .tail _ (.head _)
    rcases List.mem_cons.mp hp with rfl | hp
    · exact .tail _ (.tail _ (.head _))
    rcases List.mem_cons.mp hp with rfl | hp
    · exact .tail _ (.tail _ (.tail _ (.head _)))
    rcases List.mem_cons.mp hp with rfl | hp
    · exact .tail _ (.tail _ (.tail _ (.tail _ (.head _))))
    exact .tail _ (.tail _ (.tail _ (.tail _ (.tail _ (.tail _ (.tail _ hp)))))))⟩
theorem ne_below {news : List (Addr × Obj)} {I : Addr} (h : ∀ p ∈ news, p.1 < I) : ∀ p ∈ news, p.1 ≠ I := fun p hp => Nat.ne_of_lt (h p hp)
theorem pinv0 {M : Str → Option Value} {cX cY W R : Addr} {oX oY : Obj} {kR kW : Nat} {S0 S1 : List Int} {t0 t1 t2 : Tok} {zX zY : Option Value} {nt : List (Addr × Obj)} (hX : oX.data = Data.cell zX) (hY : oY.data = Data.cell zY) (h1 : @Ne Nat W R) (x1 : @Ne Nat cX W) (x2 : @Ne Nat cY W) (h2 : ∀ p ∈ nt, p.1 ≠ W) (h4 : @LT.lt Nat _ cX R) (h5 : @LT.lt Nat _ cY R) (h6 : ∀ p ∈ nt, p.1 < R) :
    PInv M cX cY nt S0 S1 0 (fun y => if y = Str.ofString "pegs" then some (.ref R) else if y = Str.ofString "wishes" then some (.ref W) else M y)
      ((R, listOf #[] kR) :: (W, listOf #[.int 0 t0, .int 1 t1, .int 2 t2] kW) :: (cX, oX) :: (cY, oY) :: nt) := by
  refine ⟨W, R, [.int 0 t0, .int 1 t1, .int 2 t2], [], kW, kR, oX, oY, M, zX, zY, ?_, rfl, .cons _ _ (.cons _ _ (.cons _ _ .nil)), .nil, hX, hY, ⟨h1, x1, x2⟩, h2, ⟨h4, h5⟩, h6⟩
  funext y
  by_cases q : y = Str.ofString "owners"
  · rw [if_pos q]
  · rw [if_neg q]
theorem ints3 {vs : List Value} {ns : List Int} {a b c : Int} (h : IntsAre vs ns) (e : ns = [a, b, c]) : ∃ ta tb tc, vs = [.int a ta, .int b tb, .int c tc] := by
  subst e
  cases h with
  | cons _ ta h => cases h with
    | cons _ tb h => cases h with
      | cons _ tc h => cases h; exact ⟨ta, tb, tc, rfl⟩
theorem item_pk {prog : Program} {A : Around} {value slice : PySem.Expr} {l : Addr} {vs : List Value} {ns : List Int} {n : Nat} {k : Int} {u : Tok} {x : Int} {Q : Value → Shared → Prop} (N : News h₀ L s.heap news) (hm : (l, listOf (List.toArray vs) n) ∈ news) (hi : IntsAre vs ns) (hx : ns.getD k.toNat 0 = x) (hlen : ns.length = 4) (h0 : 0 ≤ k) (hfit : k < 4) (h : ∀ t, Q (.int x t) s)
    (hs : subscripted slice false (.ref l) (.int k u) = operate [.ref l, .int k u] (getItem (.ref l) (.int k u)) := by with_unfolding_all rfl) :
    wpAny (model prog w) A (subscriptTail value slice (.ref l) (.int k u)) Q E s := by
  have hl : k.toNat < ns.length := by omega
  have e : ns[k.toNat]? = some x := by
    rw [List.getD_eq_getElem?_getD, List.getElem?_eq_getElem hl] at hx
    rw [List.getElem?_eq_getElem hl]
    exact congrArg some hx
  obtain ⟨t, ht⟩ := hi.get _ _ e
  have hL := News.isList N hm
  exact tail_any hL.typeIs slot_list_getitem.lookup (wpAny_getItem_list hL h0 (by omega) (by simpa using ht) (h t)) hs
theorem bq_t {x : Int} (h : x = 1) : (x == 1) = true := by rw [h]; rfl
theorem bq_f {x : Int} (h : x ≠ 1) : ¬ ((x == 1) = true) := by simpa using h
theorem item_gk {prog : Program} {A : Around} {value slice : PySem.Expr} {l : Addr} {vs : List Value} {ns : List Int} {n : Nat} {k : Int} {u : Tok} {x : Int} {Q : Value → Shared → Prop} (N : News h₀ L s.heap news) (hm : (l, listOf (List.toArray vs) n) ∈ news) (hx : ns.getD k.toNat 0 = x) (hi : IntsAre vs ns) (hlen : ns.length = 3) (h0 : 0 ≤ k) (hfit : k < 3) (h : ∀ t, Q (.int x t) s)
    (hs : subscripted slice false (.ref l) (.int k u) = operate [.ref l, .int k u] (getItem (.ref l) (.int k u)) := by with_unfolding_all rfl) :
    wpAny (model prog w) A (subscriptTail value slice (.ref l) (.int k u)) Q E s := by
  have hl : k.toNat < ns.length := by omega
  have e : ns[k.toNat]? = some x := by
    rw [List.getD_eq_getElem?_getD, List.getElem?_eq_getElem hl] at hx
    rw [List.getElem?_eq_getElem hl]
    exact congrArg some hx
  obtain ⟨t, ht⟩ := hi.get _ _ e
  have hL := News.isList N hm
  exact tail_any hL.typeIs slot_list_getitem.lookup (wpAny_getItem_list hL h0 (by omega) (by simpa using ht) (h t)) hs
theorem item_lit {prog : Program} {A : Around} {value slice : PySem.Expr} {l : Addr} {vs : List Value} {n : Nat} {k : Int} {u : Tok} {x : Value} {Q : Value → Shared → Prop} (N : News h₀ L s.heap news) (hm : (l, listOf (List.toArray vs) n) ∈ news) (h0 : 0 ≤ k) (hfit : k < 4) (hx : vs[k.toNat]? = some x) (h : Q x s)
    (hs : subscripted slice false (.ref l) (.int k u) = operate [.ref l, .int k u] (getItem (.ref l) (.int k u)) := by with_unfolding_all rfl) :
    wpAny (model prog w) A (subscriptTail value slice (.ref l) (.int k u)) Q E s := by
  have hL := News.isList N hm
  exact tail_any hL.typeIs slot_list_getitem.lookup (wpAny_getItem_list hL h0 (by omega) (by simpa using hx) h) hs
theorem bh_t {x y : Int} (h : x = y) : (x == y) = true := by simpa using h
theorem be_t {x : Int} : (x == x) = true := by simp
theorem be_f {x y : Int} (h : x ≠ y) : ¬ ((x == y) = true) := by simpa using h
section
variable {g h' : Heap} {I C D x : Addr} {mm : Str → Option Value} {s₁ : Shared} {oI oC oD ox : Obj} {g1 g2 g3 : Addr × Obj} {S : List (Addr × Obj) → Prop} {rest : Value → List (Addr × Obj) → Prop} {y : Value} {tk : Nat} {nw : List (Addr × Obj)}
theorem ce_same (F : Fr g L h' mm) (N : News g L h' ((I, oI) :: (C, oC) :: (D, oD) :: nw)) (off : LCg.Off3 I C D nw) (hS : S nw) (r : rest y nw) :
    LCg.CompEnd g L mm s₁ I oI C oC D oD S rest y { s₁ with heap := h', toks := tk } := LCg.CompEnd.intro F N nw (fun _ hp => hp) off hS r
theorem ce_new0 (F : Fr g L h' mm) (N : News g L h' ((x, ox) :: (I, oI) :: (C, oC) :: (D, oD) :: nw)) (off : LCg.Off3 I C D nw) (n1 : @Ne Nat x I) (n2 : @Ne Nat x C) (n3 : @Ne Nat x D) (hS : S ((x, ox) :: nw)) (r : rest y ((x, ox) :: nw)) :
    LCg.CompEnd g L mm s₁ I oI C oC D oD S rest y { s₁ with heap := h', toks := tk } := LCg.CompEnd.intro F N ((x, ox) :: nw) (fun p hp => by
      rcases List.mem_cons.mp hp with rfl | hp
      · exact .tail _ (.head _)
      rcases List.mem_cons.mp hp with rfl | hp
      · exact .tail _ (.tail _ (.head _))
      rcases List.mem_cons.mp hp with rfl | hp
      · exact .tail _ (.tail _ (.tail _ (.head _)))
      rcases List.mem_cons.mp hp with rfl | hp
      · exact .head _
      exact .tail _ (.tail _ (.tail _ (.tail _ hp))))  ⟨⟨n1, n2, n3⟩, off⟩ hS r
theorem ce_new (F : Fr g L h' mm) (N : News g L h' ((x, ox) :: g1 :: g2 :: g3 :: (I, oI) :: (C, oC) :: (D, oD) :: nw)) (off : LCg.Off3 I C D nw) (n1 : @Ne Nat x I) (n2 : @Ne Nat x C) (n3 : @Ne Nat x D) (hS : S ((x, ox) :: nw)) (r : rest y ((x, ox) :: nw)) :
    LCg.CompEnd g L mm s₁ I oI C oC D oD S rest y { s₁ with heap := h', toks := tk } := LCg.CompEnd.intro F N ((x, ox) :: nw) (fun p hp => by
      rcases List.mem_cons.mp hp with rfl | hp
      · exact .tail _ (.tail _ (.tail _ (.tail _ (.head _))))
      rcases List.mem_cons.mp hp with rfl | hp
      · exact .tail _ (.tail _ (.tail _ (.tail _ (.tail _ (.head _)))))
      rcases List.mem_cons.mp hp with rfl | hp
      · exact .tail _ (.tail _ (.tail _ (.tail _ (.tail _ (.tail _ (.head _))))))
      rcases List.mem_cons.mp hp with rfl | hp
      · exact .head _
      exact .tail _ (.tail _ (.tail _ (.tail _ (.tail _ (.tail _ (.tail _ hp)))))))  ⟨⟨n1, n2, n3⟩, off⟩ hS r
end
theorem gen_post {M : Model} {A : Around} {act : Sem Flow} {Q0 : Flow → Shared → Prop} (h : ∀ Q1 : Flow → Shared → Prop, (∀ f s', Q0 f s' → Q1 f s') → wpAny M A act Q1 E s) : wpAny M A act Q0 E s := h Q0 (fun _ _ h => h)
theorem hideM {g h : Heap} {L : Addr} {a b : Option Value} {M : Str → Option Value} (F : Fr g L h (fun y => if y = Str.ofString "pegs" then a else if y = Str.ofString "wishes" then b else M y)) : ∃ M0 : Str → Option Value, Fr g L h (fun y => if y = Str.ofString "pegs" then a else if y = Str.ofString "wishes" then b else M0 y) := ⟨M, F⟩
theorem pegs_call {P0 P1 P2 : Int} {lp : Addr} {u0 u1 u2 : Tok} {k1 : Nat} {c : Addr} {oc : Obj} {vc : Array Value} {tc : Tok}
    (B : Below A₀ base outer h₀) (F : Fr h₀ L s.heap m) (X : (hd.heap_39 w.params).In h₀) (N : News h₀ L s.heap news) (T : Top p loose mean mg mb h₀) (hk : cs.kind = .function)
    (hd : dp + 8 < recursionLimit) (hu : un + 120 < cLine) (hm : (37, tabI c) ∈ news) (hc : (c, oc) ∈ news) (hc1 : oc.data = Data.fields vc) (hc2 : vc[1]? = some (Value.str QI tc)) (hl : (lp, listOf #[.int P0 u0, .int P1 u1, .int P2 u2] k1) ∈ news)
    (one : ∀ d, d < 4 → pkO ((spS P0).getD d 0) ((spS P1).getD d 0) ((spS P2).getD d 0)) (ik0 : i2dOk 1 (15 - P0)) (ik1 : i2dOk 1 (15 - P1)) (ik2 : i2dOk 1 (15 - P2))
    (hret : ∀ D vs k h' tk', Fr h₀ L h' m → News h₀ L h' ((D, listOf (List.toArray vs) k) :: news) → IntsAre vs (pkN (spS P0) (spS P1) 4).2 → (∀ p ∈ news, p.1 < D) → Q (.ref D) { s with heap := h', toks := tk' }) :
    wpAny (model PySem.Challenge.rw_rw0037_01.row.prog w) (ktrTop dp un gd cn cs L a ccd cl outer) (call (.ref 96) [.ref lp]) Q E s := by
  k_with_none
  k_with "execs cons" => (first | (k_here; k_gentoks) | (k_here; k_made) | ((with_reducible refine Mine.Hi.ex_hid ?_); intro qH'Q hH'Q; (try dsimp only)))
  k_with "call ref" => (((with_reducible show wpAny _ _ (call (Value.ref 42) _) _ _ _); k_dflt (refine' i2d_hit ?zBK ?zFK ?zXK ?zNK ?zTK ?zkK ?z1K ?z2K ?z3K ?z4K ?zdK ?zuK ?z5K ?_; (case zBK => k_asm); (case zFK => k_asm); (case zXK => k_asm); (case zNK => k_asm); (case zTK => k_asm); (case zkK => first | exact rfl | assumption); (case z1K => k_mem); (case z2K => k_mem); (case z3K => assumption); (case z4K => assumption); (case zdK => ktr_room); (case zuK => ktr_units); (case z5K => assumption); k_whole); intro D'Q vs'Q k'Q h'Q tk'Q F'Q N'Q hi'Q hz'Q l1Q; (try k_lt l1Q); (try k_sweep); (try dsimp only); (try k_fold)))
  k_with "k_ne" => ((refine neN ?_; (try dsimp only); first | assumption | exact Ne.symm (by assumption) | exact Nat.ne_of_lt (by assumption) | exact Nat.ne_of_gt (by assumption) | omega))
  k_with "k_mem" => (first | assumption | exact List.Mem.head _ | (refine' List.Mem.tail _ ?_; k_mem))
  k_with "CompEnd" => ((lcg_end))
  k_with "S1J" => (((refine Mine.Hi.hideG (fun G hG => ?_)); (repeat ((with_reducible rename _ ∧ _ => qAnd); obtain ⟨_, _⟩ := qAnd)); (refine hG ?_); clear hG; refine' s1J_mk ?FK ?NK (List.Mem.head _) ?m1K ?m2K ?m3K ?m4K ?mnK ?dK ?i0K ?i1K ?i2K ?l1K ?l2K ?l3K ?l4K ?l5K ?l6K ?l7K ?l8K ?l9K; (case FK => k_asm); (case NK => k_asm); (case m1K => k_mem); (case m2K => k_mem); (case m3K => k_mem); (case m4K => k_mem); (case mnK => exact all4 (by k_mem) (by k_mem) (by k_mem) (by k_mem)); (case dK => assumption); (case i0K => assumption); (case i1K => assumption); (case i2K => assumption); (case l1K => omega); (case l2K => omega); (case l3K => omega); (case l4K => first | assumption | omega); (case l5K => first | assumption | (apply Ne.symm; assumption)); (case l6K => first | assumption | (apply Ne.symm; assumption)); (case l7K => first | assumption | (apply Ne.symm; assumption)); (case l8K => exact four_lt (by omega) (by omega) (by omega) (by omega)); (case l9K => exact four_ne (by first | assumption | omega) (by first | assumption | omega) (by first | assumption | omega) (by first | assumption | omega))))
  k_with "exec Assign cons ListComp" => ((k_here; (with_reducible show wpAny _ _ (exec (Stmt.Assign [Expr.Name (Str.ofString "spared") _] _ _) _) _ _ _); (fail_if_success (with_reducible show wpAny _ _ _ (S1J _ _ _ _ _ _ _ _ _) _ _)); refine' s1_cut ?cFK ?cNK rfl ?cLK ?_ ?_; (case cFK => k_asm); (case cNK => k_asm); (case cLK => assumption)))
  k_with "subscriptTail Subscript Name Name Name ref int" => ((k_here; k_dflt (refine' item_pk ?aK ?bK ?cK ?dK ?eK ?fK ?gK ?_; (case aK => k_asm); (case bK => k_mem); (case cK => assumption); (case dK => assumption); (case eK => exact spS_len _); (case fK => assumption); (case gK => assumption)); intro _))
  k_with "exec For Name Call cons nil" => ((k_here; (with_reducible show wpAny _ _ (exec (Stmt.For (Expr.Name (Str.ofString "disc") _) _ _ _ _) _) _ _ _); (refine forc ?_ (by intro _; rfl))))
  k_with "pyIter ref" => ((k_here; (with_reducible show wpAny _ _ (pyIter (Value.ref _)) (fun it s₂ => ForRest _ _ _ _ _ _ _ _ _ it s₂) _ _); k_dflt (refine' forc_iter (n := 4) ?rK ?sK ?nK ?FK ?NK ?_; (case rK => assumption); (case sK => first | decide | rfl); (case nK => first | decide | rfl); (case FK => k_asm); (case NK => k_asm)); intro I'Q h'Q F'Q N'Q l1Q; (try k_sweep)))
  k_with "ite" => (first | (refine ite_pos (bq_t (by assumption)) ?_) | (refine ite_neg (bq_f (by assumption)) ?_))
  k_with "subscriptTail Name Name ref int" => ((k_here; k_dflt (refine' item_lit ?aK ?bK ?cK ?dK ?eK ?_; (case aK => k_asm); (case bK => k_mem); (case cK => first | assumption | decide); (case dK => first | omega | decide); (case eK => first | rfl | assumption))))
  k_with "subscriptTail Name Subscript ref int" => ((k_here; k_dflt (refine' item_gk ?aK ?bK ?cK ?dK ?eK ?fK ?gK ?_; (case aK => k_asm); (case bK => k_mem); (case cK => assumption); (case dK => exact .cons _ _ (.cons _ _ (.cons _ _ .nil))); (case eK => rfl); (case fK => assumption); (case gK => assumption)); intro _))
  k_with "IfJ" => (exact ⟨_, _, rfl, rfl⟩)
  k_with "OJ" => (exact ⟨rfl, _, rfl⟩)
  k_with "OwJ" => (exact owJ_mk (by k_asm) (by k_asm) (by assumption))
  k_with "CompSrc IfExp cons ref" => ((k_here; k_dflt (refine LCg.CompSrc.ledger (by rfl) (by k_asm) (by k_asm) (by k_mem) (by exact Nat.le_of_ble_eq_true rfl) ?_; intro g'Q; lcg_lit)))
  k_with "ite" => (first | (refine ite_pos be_t ?_) | (refine ite_pos (bh_t (by assumption)) ?_) | (refine ite_neg (be_f (by first | assumption | exact Ne.symm (by assumption))) ?_) | (refine ite_pos (bq_t (by assumption)) ?_) | (refine ite_neg (bq_f (by assumption)) ?_))
  k_with "CompRest" => ((with_unfolding_all first | (refine LCg.CompRest.succ ?_; intro v'Q I'Q oI'Q C'Q oC'Q D'Q m'Q h'Q tk'Q E'Q hv'Q hC'Q hx'Q F'Q N'Q off'Q ne'Q; (first | lcg_open hv'Q | (obtain ⟨t9', hv9'⟩ := hv'Q; subst hv9')); (try k_sweep); (try dsimp only); (refine Mine.Hi.post_hid ?_; intro qV'Q hV'Q)) | refine LCg.CompRest.zero ?_))
  k_with "CompRest" => ((with_unfolding_all (refine LCg.CompRest.succ ?_; intro v'Q I'Q oI'Q C'Q oC'Q D'Q m'Q h'Q tk'Q E'Q hv'Q hC'Q hx'Q F'Q N'Q off'Q ne'Q; (first | lcg_open hv'Q | (obtain ⟨t9', hv9'⟩ := hv'Q; subst hv9')); (try k_sweep); (try dsimp only); (refine' el_use ?uHK ?uCK ?uxK ?uoK ?uFK ?uNK ?u1K ?u2K ?_; (case uHK => with_reducible assumption); (case uCK => with_reducible assumption); (case uxK => with_reducible assumption); (case uoK => with_reducible assumption); (case uFK => k_asm); (case uNK => k_asm); (case u1K => k_mem); (case u2K => k_mem)); intro h2'Q tk2'Q R'Q vs'Q k2'Q F2'Q N2'Q i2'Q l2'Q; (try k_lt l2'Q); (try k_sweep); (try dsimp only))))
  k_with "CompRest" => ((with_unfolding_all (refine LCg.CompRest.succ ?_; intro v'Q I'Q oI'Q C'Q oC'Q D'Q m'Q h'Q tk'Q E'Q hv'Q hC'Q hx'Q F'Q N'Q off'Q ne'Q; (first | lcg_open hv'Q | (obtain ⟨t9', hv9'⟩ := hv'Q; subst hv9')); (try k_sweep); (try dsimp only); (refine' Mine.Hi.v_use ?uHK ?uCK ?uxK ?uFK ?uNK ?u1K ?_; (case uHK => with_reducible assumption); (case uCK => with_reducible assumption); (case uxK => with_reducible assumption); (case uFK => k_asm); (case uNK => k_asm); (case u1K => k_mem)); intro t2'Q tk2'Q; (try dsimp only))))
  k_with "CompRestT" => ((with_unfolding_all first | (refine LCt.CompRestT.succ ?_; intro v'Q I'Q oI'Q C'Q oC'Q D'Q m'Q h'Q tk'Q E'Q hv'Q hC'Q hx'Q F'Q N'Q off'Q ne'Q; (first | lcg_open hv'Q | (obtain ⟨t9', hv9'⟩ := hv'Q; subst hv9')); (try k_sweep); (try dsimp only); (refine Mine.Hi.post_hid ?_; intro qV'Q hV'Q)) | refine LCt.CompRestT.zero ?_))
  k_with "CompRestT" => ((with_unfolding_all (refine LCt.CompRestT.succ ?_; intro v'Q I'Q oI'Q C'Q oC'Q D'Q m'Q h'Q tk'Q E'Q hv'Q hC'Q hx'Q F'Q N'Q off'Q ne'Q; (first | lcg_open hv'Q | (obtain ⟨t9', hv9'⟩ := hv'Q; subst hv9')); (try k_sweep); (try dsimp only); (first | (refine' o_use_t ?uHK ?uCK ?uxK ?ucK ?u0K ?u3K ?uFK ?uNK ?ukK ?_; (case uHK => with_reducible assumption); (case uxK => with_reducible assumption); (case ucK => exact bq_t (by assumption))) | (refine' o_use_f ?uHK ?uCK ?uxK ?ucK ?u0K ?u3K ?uFK ?uNK ?ukK ?_; (case uHK => with_reducible assumption); (case uxK => with_reducible assumption); (case ucK => exact bq_f (by assumption)))); (case uCK => with_reducible assumption); (case u0K => decide); (case u3K => decide); (case uFK => k_asm); (case uNK => k_asm); (case ukK => intro pQ hpQ; repeat (first | exact hpQ | refine List.Mem.tail _ ?_)); intro tk2'Q; (try dsimp only))))
  k_with "CompEnd int" => ((k_dflt (refine' ce_same ?aK ?bK ?cK ?dK ?_; (case aK => k_asm); (case bK => k_asm); (case cK => assumption); (case dK => lcg_src))))
  k_with "CompEnd none" => ((k_dflt (refine' ce_same ?aK ?bK ?cK ?dK ?_; (case aK => k_asm); (case bK => k_asm); (case cK => assumption); (case dK => lcg_src))))
  k_with "CompEnd ref" => ((k_dflt (refine' ce_new ?aK ?bK ?cK ?n1K ?n2K ?n3K ?dK ?_; (case aK => k_asm); (case bK => k_asm); (case cK => assumption); (case n1K => k_ne); (case n2K => k_ne); (case n3K => k_ne); (case dK => lcg_src))))
  k_with "CompEnd ref" => ((k_dflt (refine' ce_new0 ?aK ?bK ?cK ?n1K ?n2K ?n3K ?dK ?_; (case aK => k_asm); (case bK => k_asm); (case cK => assumption); (case n1K => k_ne); (case n2K => k_ne); (case n3K => k_ne); (case dK => lcg_src))))
  k_with "k_all" => (first | assumption | exact ne_below (by assumption) | exact ne_below (tb_ltOf (by assumption)) | (refine List.forall_mem_cons.mpr ⟨by k_ne, ?_⟩; k_all))
  have g37 := (N _ hm).1
  have hne : c ≠ 37 := fun e => by
    have := (N _ hc).1
    rw [show ((c, oc) : Addr × Obj).1 = 37 from e, g37] at this
    have e2 : tabI c = oc := Option.some.inj this
    rw [← e2] at hc1
    cases hc1
    simp [rawInt] at hc2
  have hnl : lp ≠ 37 ∧ lp ≠ c := by
    have gl := (N _ hl).1
    refine ⟨fun e => ?_, fun e => ?_⟩
    · rw [show ((lp, listOf #[.int P0 u0, .int P1 u1, .int P2 u2] k1) : Addr × Obj).1 = 37 from e, g37] at gl
      cases gl
    · have gc := (N _ hc).1
      rw [show ((lp, listOf #[.int P0 u0, .int P1 u1, .int P2 u2] k1) : Addr × Obj).1 = c from e] at gl
      rw [show ((c, oc) : Addr × Obj).1 = c from rfl, gl] at gc
      have e3 : listOf #[.int P0 u0, .int P1 u1, .int P2 u2] k1 = oc := Option.some.inj gc
      rw [← e3] at hc1
      cases hc1
  revert X
  have hx : PySem.Challenge.rw_rw0037_01 = PySem.Challenge.rw_rw0037_01 := rfl
  revert hx
  k_fill
  intro hx X
  refine wpAny_call ?_
  skip
  k_dflt (refine' code_frzC (own := [(37, tabI c), (c, oc)]) (frz := news.filter fun q => decide (q.1 ≠ 37) && decide (q.1 ≠ c)) ?k1 ?k2 ?k3 ?kn ?kf ?ks ?k5 ?kA ?kF ?kK ?k6 ?k7 ?k8 ?k9 ?kB ?kD ?_ ?c2 ?c3 ?c4; (case kA => exact rfl); (case kF => exact rfl); (case kK => assumption); (case k1 => k_asm); (case k2 => k_asm); (case k3 => k_asm); (case k5 => k_asm); (case k6 => k_is); (case k7 => k_is); (case k8 => ktr_room); (case k9 => exact BindsTo.of_eq rfl); (case kB => exact rfl); (case kD => decide +kernel); (case c2 => exact rfl); (case c3 => exact rfl); (case c4 => exact rfl))
  case kn => exact List.forall_mem_cons.mpr ⟨N _ hm, List.forall_mem_cons.mpr ⟨N _ hc, fun _ h => nomatch h⟩⟩
  case kf => exact fun q hq => N q (List.mem_filter.mp hq).1
  case ks =>
    intro q hq r hr
    have hq2 := (List.mem_filter.mp hq).2
    simp only [Bool.and_eq_true, decide_eq_true_eq] at hq2
    rcases List.mem_cons.mp hr with rfl | hr
    · exact hq2.1
    · rw [List.mem_singleton.mp hr]; exact hq2.2
  intro g' L' h' tk' cells' stay back low FG' F' N' Y' B' X' T' l1
  skip
  k_lt l1
  skip
  k_cells Y'
  skip
  simp only [List.cons_append, List.nil_append] at N'
  have hbl : g'.IsList lp #[.int P0 u0, .int P1 u1, .int P2 u2] := ⟨_, stay (lp, listOf #[.int P0 u0, .int P1 u1, .int P2 u2] k1) (List.mem_filter.mpr ⟨hl, by simp [hnl.1, hnl.2]⟩), rfl, _, rfl⟩
  clear stay
  (try dsimp only)
  (try k_fold)
  skip
  repeat' ((fail_if_success (with_reducible show wpAny _ _ (exec (Stmt.Assign [_] (Expr.ListComp _ _ _ _) _) _) _ _ _)); first | (((fail_if_success (with_reducible show wpAny _ _ _ _ _ _)); first | (refine Mine.Hi.HidV.out (by with_reducible assumption) _ _ ?_) | (refine Mine.Hi.Hid.nxt (by with_reducible assumption) _ ?_) | (refine Mine.Hi.Hid.oth (by with_reducible assumption) _ _ (fun h => nomatch h) ?_)); (try dsimp only)) | (k_unfold; (try dsimp only)) | (k_end; wrow_close) | ((with_reducible show wpAny _ _ (PySem.evalPart _ _) _ _ _); walk1) | ((with_reducible show wpAny _ _ (PyProof.Rows.subscriptTail _ _ _ _) _ _ _); walk1) | (walk1 <;> (try ((fail_if_success (with_reducible show wpAny _ _ (PyProof.Rows.subscriptTail _ _ _ _) _ _ _)); dsimp only))) | (dsimp only; walk1 <;> (try ((fail_if_success (with_reducible show wpAny _ _ (PyProof.Rows.subscriptTail _ _ _ _) _ _ _)); dsimp only))) | (leave1; walk_say "STEP leave1"; try dsimp only))
  walk1
  · skip
    refine' el_with [] (37, tabI c) (c, oc) ?eF ?eS ?_
    case eF => k_asm
    case eS =>
      intro E1 I oI C oC D oD nw m' P u s1 e1 e2 e3 e4 e5 e6 e7
      skip
      repeat' (first | (((fail_if_success (with_reducible show wpAny _ _ _ _ _ _)); first | (refine Mine.Hi.HidV.out (by with_reducible assumption) _ _ ?_) | (refine Mine.Hi.Hid.nxt (by with_reducible assumption) _ ?_) | (refine Mine.Hi.Hid.oth (by with_reducible assumption) _ _ (fun h => nomatch h) ?_)); (try dsimp only)) | (k_unfold; (try dsimp only)) | ((with_reducible show wpAny _ _ (PySem.evalPart _ _) _ _ _); walk1) | ((with_reducible show wpAny _ _ (PyProof.Rows.subscriptTail _ _ _ _) _ _ _); walk1) | (walk1 <;> (try ((fail_if_success (with_reducible show wpAny _ _ (PyProof.Rows.subscriptTail _ _ _ _) _ _ _)); dsimp only))) | (dsimp only; walk1 <;> (try ((fail_if_success (with_reducible show wpAny _ _ (PyProof.Rows.subscriptTail _ _ _ _) _ _ _)); dsimp only))))
      refine' elJ_mk ?jF ?jN ?jI ?jl
      case jF => k_asm
      case jN => k_asm
      case jI => first | assumption | (show IntsAre _ (List.take 4 (i2dR 1 (15 - P) ++ [0, 0, 0, 0])); assumption)
      case jl => with_reducible assumption
    intro Hel
    skip
    repeat' (first | (((fail_if_success (with_reducible show wpAny _ _ _ _ _ _)); first | (refine Mine.Hi.HidV.out (by with_reducible assumption) _ _ ?_) | (refine Mine.Hi.Hid.nxt (by with_reducible assumption) _ ?_) | (refine Mine.Hi.Hid.oth (by with_reducible assumption) _ _ (fun h => nomatch h) ?_)); (try dsimp only)) | (k_unfold; (try dsimp only)) | ((with_reducible show wpAny _ _ (PySem.evalPart _ _) _ _ _); walk1) | ((with_reducible show wpAny _ _ (PyProof.Rows.subscriptTail _ _ _ _) _ _ _); walk1) | (walk1 <;> (try ((fail_if_success (with_reducible show wpAny _ _ (PyProof.Rows.subscriptTail _ _ _ _) _ _ _)); dsimp only))) | (dsimp only; walk1 <;> (try ((fail_if_success (with_reducible show wpAny _ _ (PyProof.Rows.subscriptTail _ _ _ _) _ _ _)); dsimp only))))
    skip
  · intro h2 tk2 S s0 s1 s2 v0 v1 v2 k0 k1' k2 oS F2 N2 dS i0 i1 i2 l1 l2 l3 l4 l5 l6 l7 l8 l9
    clear FG' F' N'
    (try dsimp only)
    (try k_fold)
    k_lt l8
    have e1 : @Ne Nat (L' + 1 + 1 + 1) S := l9 _ (.head _)
    have e2 : @Ne Nat (L' + 1 + 1) S := l9 _ (.tail _ (.head _))
    have e3 : @Ne Nat 37 S := l9 _ (.tail _ (.tail _ (.head _)))
    have e4 : @Ne Nat c S := l9 _ (.tail _ (.tail _ (.tail _ (.head _))))
    clear l9
    refine Mine.Hi.hideG (fun G hG => ?_)
    obtain ⟨nt, mS, ms0, ms1, ms2, mcS, m37, mcc, eX, eY, N4⟩ := tail_abs N2 (by repeat (first | exact List.forall_mem_nil _ | refine List.forall_mem_cons.mpr ⟨by k_ne, ?_⟩)) (by repeat (first | exact List.forall_mem_nil _ | refine List.forall_mem_cons.mpr ⟨by k_ne, ?_⟩))
    refine hG ?_
    clear hG
    clear N2
    repeat' ((fail_if_success (with_reducible show ForRest _ _ _ _ _ _ _ _ _ _ _)); first | (((fail_if_success (with_reducible show wpAny _ _ _ _ _ _)); first | (refine Mine.Hi.HidV.out (by with_reducible assumption) _ _ ?_) | (refine Mine.Hi.Hid.nxt (by with_reducible assumption) _ ?_) | (refine Mine.Hi.Hid.oth (by with_reducible assumption) _ _ (fun h => nomatch h) ?_)); (try dsimp only)) | (k_unfold; (try dsimp only)) | ((with_reducible show wpAny _ _ (evalPart _ _) _ _ _); walk1) | ((with_reducible show wpAny _ _ (subscriptTail _ _ _ _) _ _ _); walk1) | (walk1 <;> (try ((fail_if_success (with_reducible show wpAny _ _ (subscriptTail _ _ _ _) _ _ _)); dsimp only))) | (dsimp only; walk1 <;> (try ((fail_if_success (with_reducible show wpAny _ _ (subscriptTail _ _ _ _) _ _ _)); dsimp only))))
    skip
    obtain ⟨M0, FM⟩ := hideM (by assumption)
    refine' forc_ind (L := L') (n := 4) (PInv M0 (L' + 1 + 1 + 1) (L' + 1 + 1) nt (spS P0) (spS P1)) ?hE ?hh rfl ?zF ?zN ?zo ?zi ?turn ?fin
    case zF => k_asm
    case zN => k_asm
    case hE => first | passes_own | with_unfolding_all passes_own
    case hh => rfl
    case zo => exact ne_below (by assumption)
    skip
    case zi =>
      (refine Mine.Hi.hideG (fun G hG => ?_)); (repeat ((with_reducible rename _ ∧ _ => qAnd); obtain ⟨_, _⟩ := qAnd)); (refine hG ?_); clear hG
      refine' pinv0 ?y1 ?y2 ?y3 ?y4 ?y5 ?y6 ?y7 ?y8 ?y9
      case y1 => assumption
      case y2 => assumption
      all_goals first | assumption | k_ne | exact tb_ltOf (by assumption) | exact ne_below (tb_ltOf (by assumption)) | omega
    case fin =>
      skip
      intro m3 rest3 h3 tk3 hPI F3 N3
      refine Mine.Hi.hideG (fun G hG => ?_)
      obtain ⟨W, R, vW, vR, kW, kR, oX, oY, u, zX, zY, ePm, ePr, iW, iR, dX, dY, q1, q2, q3, q4⟩ := hPI
      refine hG ?_
      clear hG
      subst ePm ePr
      repeat' (first | (((fail_if_success (with_reducible show wpAny _ _ _ _ _ _)); first | (refine Mine.Hi.HidV.out (by with_reducible assumption) _ _ ?_) | (refine Mine.Hi.Hid.nxt (by with_reducible assumption) _ ?_) | (refine Mine.Hi.Hid.oth (by with_reducible assumption) _ _ (fun h => nomatch h) ?_)); (try dsimp only)) | (k_unfold; (try dsimp only)) | ((with_reducible show wpAny _ _ (PySem.evalPart _ _) _ _ _); walk1) | ((with_reducible show wpAny _ _ (PyProof.Rows.subscriptTail _ _ _ _) _ _ _); walk1) | (walk1 <;> (try ((fail_if_success (with_reducible show wpAny _ _ (PyProof.Rows.subscriptTail _ _ _ _) _ _ _)); dsimp only))) | (dsimp only; walk1 <;> (try ((fail_if_success (with_reducible show wpAny _ _ (PyProof.Rows.subscriptTail _ _ _ _) _ _ _)); dsimp only))))
      all_goals (try k_data)
      have nF := news_join N hm hc (Mine.Nst.news_sub (by assumption) (all2 (by k_mem) (by k_mem))) (back _ (Fr.keep F3))
      refine' hret _ _ _ _ _ ?qF ?qN ?qi ?ql
      case qF => k_asm
      case qN => exact news_consJ (by assumption) nF
      case qi => exact iR
      case ql => exact below_join N hm hc low (q4 _ m37) (q4 _ mcc) (by omega)
    case turn =>
      skip
      intro i m3 rest3 h3 t3 tk3 hi hPI off F3 N3
      refine Mine.Hi.hideG (fun G hG => ?_)
      obtain ⟨W, R, vW, vR, kW, kR, oX, oY, u, zX, zY, ePm, ePr, iW, iR, dX, dY, ⟨q1, x1, x2⟩, q2, ⟨q3, q5⟩, q4⟩ := hPI
      refine hG ?_
      clear hG
      subst ePm ePr
      (repeat ((with_reducible rename News _ _ (Heap.mk _) _ => nQ); clear nQ))
      have one' := one (3 - i) (by omega)
      refine Mine.Hi.hideG (fun G hG => ?_)
      obtain ⟨⟨wa, wb, wc, ew, w1, w2, w3, w4, w5, w6, w7, w8, w9, w10⟩, wl⟩ := pkN_inv (spS P0) (spS P1) i
      obtain ⟨ta, tb, tc, e3W⟩ := ints3 iW ew
      refine hG ?_
      clear hG
      subst e3W
      have oR := off _ (.head _)
      have oW := off _ (.tail _ (.head _))
      have oX' := off _ (.tail _ (.tail _ (.head _)))
      have oY' := off _ (.tail _ (.tail _ (.tail _ (.head _))))
      have ont : ∀ p ∈ nt, p.1 ≠ _ := fun p hp => off p (.tail _ (.tail _ (.tail _ (.tail _ hp))))
      clear off
      dsimp only at oR oW oX' oY'
      generalize hdd : (3 + (i : Int) * -1 : Int) = dd
      have hd0 : 0 ≤ dd := by omega
      have hd4 : dd < 4 := by omega
      have hdn : 3 - i = dd.toNat := by omega
      rw [hdn] at one'
      obtain ⟨x0, hx0⟩ : ∃ x, (spS P0).getD dd.toNat 0 = x := ⟨_, rfl⟩
      obtain ⟨x1v, hx1⟩ : ∃ x, (spS P1).getD dd.toNat 0 = x := ⟨_, rfl⟩
      obtain ⟨x2v, hx2⟩ : ∃ x, (spS P2).getD dd.toNat 0 = x := ⟨_, rfl⟩
      rw [hx0, hx1, hx2] at one'
      have iR4 : (pkN (spS P0) (spS P1) i).2.length ≤ 4 := by omega
      (try dsimp only)
      (try k_fold)
      walk1
      (try dsimp only)
      refine gen_post (fun QQ hQ => ?_)
      refine Mine.Hi.hideG (fun G hG => ?_)
      obtain ⟨kk, hk0, hk3, hkf, hkw⟩ := pk_ways one'
      obtain ⟨pv, hp⟩ : ∃ pv, [wa, wb, wc].getD kk.toNat 0 = pv := ⟨_, rfl⟩
      refine hG ?_
      clear hG
      have en := pk_en ew hdn hx0 hx1 hkf hp
      (try dsimp only)
      (try k_fold)
      repeat' ((fail_if_success (with_reducible show wpAny _ _ (exec (Stmt.Assign [_] (Expr.ListComp _ _ _ _) _) _) _ _ _)); first | (((fail_if_success (with_reducible show wpAny _ _ _ _ _ _)); first | (refine Mine.Hi.HidV.out (by with_reducible assumption) _ _ ?_) | (refine Mine.Hi.Hid.nxt (by with_reducible assumption) _ ?_) | (refine Mine.Hi.Hid.oth (by with_reducible assumption) _ _ (fun h => nomatch h) ?_)); (try dsimp only)) | (k_unfold; (try dsimp only)) | (k_end; wrow_close) | ((with_reducible show wpAny _ _ (PySem.evalPart _ _) _ _ _); walk1) | ((with_reducible show wpAny _ _ (PyProof.Rows.subscriptTail _ _ _ _) _ _ _); walk1) | (walk1 <;> (try ((fail_if_success (with_reducible show wpAny _ _ (PyProof.Rows.subscriptTail _ _ _ _) _ _ _)); dsimp only))) | (dsimp only; walk1 <;> (try ((fail_if_success (with_reducible show wpAny _ _ (PyProof.Rows.subscriptTail _ _ _ _) _ _ _)); dsimp only))) | (leave1; walk_say "STEP leave1"; try dsimp only))
      refine' ow_cut kk ?wF ?wN ?_ ?_
      case wF => k_asm
      case wN => k_asm
      · refine' o_with [(Str.ofString "spared", L' + 1), (Str.ofString "disc", L' + 1 + 1)] (fun v => [x0, x1v, x2v].getD v.toNat 0 == 1) ?oF ?oN ?oS ?_
        case oF => k_asm
        case oN => k_asm
        case oS =>
          intro E1 I oI C oC D oD m' v u s1 e1 e2 e3 e4 e5 e6
          refine Mine.Hi.hideG (fun G hG => ?_)
          obtain ⟨sx, vx, kx, Px, z1, z2, z3, z4⟩ := osel e3 e4 ms0 ms1 ms2 i0 i1 i2 hx0 hx1 hx2
          refine hG ?_
          clear hG
          skip
          repeat' (first | (((fail_if_success (with_reducible show wpAny _ _ _ _ _ _)); first | (refine Mine.Hi.HidV.out (by with_reducible assumption) _ _ ?_) | (refine Mine.Hi.Hid.nxt (by with_reducible assumption) _ ?_) | (refine Mine.Hi.Hid.oth (by with_reducible assumption) _ _ (fun h => nomatch h) ?_)); (try dsimp only)) | (k_unfold; (try dsimp only)) | ((with_reducible show wpAny _ _ (PySem.evalPart _ _) _ _ _); walk1) | ((with_reducible show wpAny _ _ (PyProof.Rows.subscriptTail _ _ _ _) _ _ _); walk1) | (walk1 <;> (try ((fail_if_success (with_reducible show wpAny _ _ (PyProof.Rows.subscriptTail _ _ _ _) _ _ _)); dsimp only))) | (dsimp only; walk1 <;> (try ((fail_if_success (with_reducible show wpAny _ _ (PyProof.Rows.subscriptTail _ _ _ _) _ _ _)); dsimp only))))
        intro Hos
        skip
        rcases hkw with hkw | hkw | hkw
        all_goals
          refine Mine.Hi.hideG (fun G hG => ?_)
          obtain ⟨eK, y0, y1, y2⟩ := hkw
          refine hG ?_
          clear hG
          subst eK
          repeat' (first | (((fail_if_success (with_reducible show wpAny _ _ _ _ _ _)); first | (refine Mine.Hi.HidV.out (by with_reducible assumption) _ _ ?_) | (refine Mine.Hi.Hid.nxt (by with_reducible assumption) _ ?_) | (refine Mine.Hi.Hid.oth (by with_reducible assumption) _ _ (fun h => nomatch h) ?_)); (try dsimp only)) | (k_unfold; (try dsimp only)) | ((with_reducible show wpAny _ _ (PySem.evalPart _ _) _ _ _); walk1) | ((with_reducible show wpAny _ _ (PyProof.Rows.subscriptTail _ _ _ _) _ _ _); walk1) | (walk1 <;> (try ((fail_if_success (with_reducible show wpAny _ _ (PyProof.Rows.subscriptTail _ _ _ _) _ _ _)); dsimp only))) | (dsimp only; walk1 <;> (try ((fail_if_success (with_reducible show wpAny _ _ (PyProof.Rows.subscriptTail _ _ _ _) _ _ _)); dsimp only))))
        skip
      · intro h4 tk4 O4 t4 F4 N4 o4
        clear hkw
        dsimp only [LCg.Off1] at o4
        (try dsimp only)
        (try k_fold)
        skip
        repeat' ((fail_if_success (with_reducible show wpAny _ _ (exec (Stmt.Assign [_] (Expr.ListComp _ _ _ _) _) _) _ _ _)); first | (((fail_if_success (with_reducible show wpAny _ _ _ _ _ _)); first | (refine Mine.Hi.HidV.out (by with_reducible assumption) _ _ ?_) | (refine Mine.Hi.Hid.nxt (by with_reducible assumption) _ ?_) | (refine Mine.Hi.Hid.oth (by with_reducible assumption) _ _ (fun h => nomatch h) ?_)); (try dsimp only)) | (k_unfold; (try dsimp only)) | (k_end; wrow_close) | ((with_reducible show wpAny _ _ (PySem.evalPart _ _) _ _ _); walk1) | ((with_reducible show wpAny _ _ (PyProof.Rows.subscriptTail _ _ _ _) _ _ _); walk1) | (walk1 <;> (try ((fail_if_success (with_reducible show wpAny _ _ (PyProof.Rows.subscriptTail _ _ _ _) _ _ _)); dsimp only))) | (dsimp only; walk1 <;> (try ((fail_if_success (with_reducible show wpAny _ _ (PyProof.Rows.subscriptTail _ _ _ _) _ _ _)); dsimp only))) | (leave1; walk_say "STEP leave1"; try dsimp only))
        refine' Mine.Hi.v_with [(Str.ofString "peg", L' + 1 + 1 + 1)] (L' + 1 + 1 + 1) pv (Str.ofString "wish") (fun v t => .int (if v = pv then v else 3 - pv - v) t) ?vF ?vd ?vS ?_
        case vF => k_asm
        case vd => assumption
        case vS =>
          intro E1 I oI C oC D oD nw m' v u s1 e1 e2 e3 e4 e5
          refine' Mine.Hi.vj_if (fun r => rfl) (J := fun r => IfJ s1 r) (pv := pv) (r1 := v) (r2 := 3 - pv - v) ?_ ?_ ?_ ?_
          · intro h t
            show Value.int (if v = pv then v else 3 - pv - v) t = _
            rw [if_pos h]
          · intro h t
            show Value.int (if v = pv then v else 3 - pv - v) t = _
            rw [if_neg h]
          · intro hvp
            repeat' (first | (((fail_if_success (with_reducible show wpAny _ _ _ _ _ _)); first | (refine Mine.Hi.HidV.out (by with_reducible assumption) _ _ ?_) | (refine Mine.Hi.Hid.nxt (by with_reducible assumption) _ ?_) | (refine Mine.Hi.Hid.oth (by with_reducible assumption) _ _ (fun h => nomatch h) ?_)); (try dsimp only)) | (k_unfold; (try dsimp only)) | ((with_reducible show wpAny _ _ (PySem.evalPart _ _) _ _ _); walk1) | ((with_reducible show wpAny _ _ (PyProof.Rows.subscriptTail _ _ _ _) _ _ _); walk1) | (walk1 <;> (try ((fail_if_success (with_reducible show wpAny _ _ (PyProof.Rows.subscriptTail _ _ _ _) _ _ _)); dsimp only))) | (dsimp only; walk1 <;> (try ((fail_if_success (with_reducible show wpAny _ _ (PyProof.Rows.subscriptTail _ _ _ _) _ _ _)); dsimp only))))
          · intro hvp
            repeat' (first | (((fail_if_success (with_reducible show wpAny _ _ _ _ _ _)); first | (refine Mine.Hi.HidV.out (by with_reducible assumption) _ _ ?_) | (refine Mine.Hi.Hid.nxt (by with_reducible assumption) _ ?_) | (refine Mine.Hi.Hid.oth (by with_reducible assumption) _ _ (fun h => nomatch h) ?_)); (try dsimp only)) | (k_unfold; (try dsimp only)) | ((with_reducible show wpAny _ _ (PySem.evalPart _ _) _ _ _); walk1) | ((with_reducible show wpAny _ _ (PyProof.Rows.subscriptTail _ _ _ _) _ _ _); walk1) | (walk1 <;> (try ((fail_if_success (with_reducible show wpAny _ _ (PyProof.Rows.subscriptTail _ _ _ _) _ _ _)); dsimp only))) | (dsimp only; walk1 <;> (try ((fail_if_success (with_reducible show wpAny _ _ (PyProof.Rows.subscriptTail _ _ _ _) _ _ _)); dsimp only))))
        intro Hvs
        skip
        repeat' (first | (((fail_if_success (with_reducible show wpAny _ _ _ _ _ _)); first | (refine Mine.Hi.HidV.out (by with_reducible assumption) _ _ ?_) | (refine Mine.Hi.Hid.nxt (by with_reducible assumption) _ ?_) | (refine Mine.Hi.Hid.oth (by with_reducible assumption) _ _ (fun h => nomatch h) ?_)); (try dsimp only)) | (k_unfold; (try dsimp only)) | ((with_reducible show wpAny _ _ (PySem.evalPart _ _) _ _ _); walk1) | ((with_reducible show wpAny _ _ (PyProof.Rows.subscriptTail _ _ _ _) _ _ _); walk1) | (walk1 <;> (try ((fail_if_success (with_reducible show wpAny _ _ (PyProof.Rows.subscriptTail _ _ _ _) _ _ _)); dsimp only))) | (dsimp only; walk1 <;> (try ((fail_if_success (with_reducible show wpAny _ _ (PyProof.Rows.subscriptTail _ _ _ _) _ _ _)); dsimp only))))
        refine hQ _ _ ?_
        refine' pend2 ?qFa ?qNa en ?qra ?qea ?qxa ?qya ?qoa ?qla oX' oY' ont ?qma
        case qFa => k_asm
        case qNa => k_asm
        case qra => assumption
        case qea => rfl
        case qxa => assumption
        case qya => assumption
        case qma => rfl
        skip
        case qoa => with_reducible assumption
        skip
        case qla => with_reducible assumption
end
end Mine.F8
end
theorem Mine.Off.t24 : True := by
  w_top off
  first | (walk1; done) | trivial
section
open Mine.L0 Mine.Cm
open PySem PySem.W PyProof.Rows PySem.Calls PyProof.V PySem.Spec



namespace Mine.L5
section
variable {w : World} {p : Program} {loose : List Str} {mean : ExcName → Option Value} {mg mb : Str → Option Value} {h₀ : Heap} {L fa : Addr} {cd : Value} {u : Str → Option Value} {news : List (Addr × Obj)} {s : Shared} {Q : Flow → Shared → Prop} {E : Value → Shared → Prop}


theorem law_5 {d0 d1 d2 d3 : Int} {u0 u1 u2 u3 v0 v1 v2 v3 : Tok} {op : Obj} {lp ld : Addr} {k k' : Nat}
    (X : (hd.heap_39 w.params).In h₀) (N : News h₀ L s.heap news) (T : Top p loose mean mg mb h₀) (F : Fr h₀ L s.heap (fun y => if y = Str.ofString "drawn" then some (.ref ld) else u y)) 
    (mp : (L + 1 + 1 + 1 + 1, op) ∈ news) (ml : (lp, listOf #[.int d0 u0, .int d1 u1, .int d2 u2, .int d3 u3] k) ∈ news) (md : (ld, listOf #[.int d0 v0, .int d1 v1, .int d2 v2, .int d3 v3] k') ∈ news) (dp : op.data = Data.cell (some (.ref lp)))
    (hret : ∀ h' tk', Fr h₀ L h' (fun y => if y = Str.ofString "drawn" then some (.ref ld) else u y) → News h₀ L h' news → Q .next { s with heap := h', toks := tk' }) :
    wpAny (model PySem.Challenge.rw_rw0037_01.row.prog w) (lawA L fa cd) (exec (lawSt 5) (envOfC (Str.ofString "law") lawSc L fa cd)) Q E s := by
  k_with_none
  k_with "execs cons" => (first | (k_here; k_gentoks) | (k_here; k_made) | ((with_reducible refine Mine.Hi.ex_hid ?_); intro qH'Q hH'Q; (try dsimp only)))
  k_with "k_mem" => (first | assumption | exact List.Mem.head _ | (refine' List.Mem.tail _ ?_; k_mem))
  k_with "is_list" => (exact News.isList (by k_asm) (by k_mem))
  k_with "CompRest" => ((with_unfolding_all first | (refine LCg.CompRest.succ ?_; intro v'Q I'Q oI'Q C'Q oC'Q D'Q m'Q h'Q tk'Q E'Q hv'Q hC'Q hx'Q F'Q N'Q off'Q ne'Q; (first | lcg_open hv'Q | (obtain ⟨t9', hv9'⟩ := hv'Q; subst hv9')); (try k_sweep); (try dsimp only); (refine Mine.Hi.post_hid ?_; intro qV'Q hV'Q)) | refine LCg.CompRest.zero ?_))
  k_with "CompRestT" => ((with_unfolding_all first | (refine LCt.CompRestT.succ ?_; intro v'Q I'Q oI'Q C'Q oC'Q D'Q m'Q h'Q tk'Q E'Q hv'Q hC'Q hx'Q F'Q N'Q off'Q ne'Q; (first | lcg_open hv'Q | (obtain ⟨t9', hv9'⟩ := hv'Q; subst hv9')); (try k_sweep); (try dsimp only); (refine Mine.Hi.post_hid ?_; intro qV'Q hV'Q)) | refine LCt.CompRestT.zero ?_))
  k_with "CompEnd int" => ((k_dflt (refine' Cm.ce_same ?aK ?bK ?cK ?dK ?_; (case aK => k_asm); (case bK => k_asm); (case cK => assumption); (case dK => lcg_src))))
  k_with "CompEnd none" => ((k_dflt (refine' Cm.ce_same ?aK ?bK ?cK ?dK ?_; (case aK => k_asm); (case bK => k_asm); (case cK => assumption); (case dK => lcg_src))))
  k_with "CompEnd str" => ((k_dflt (refine' Cm.ce_same ?aK ?bK ?cK ?dK ?_; (case aK => k_asm); (case bK => k_asm); (case cK => assumption); (case dK => lcg_src))))
  k_with "CompEnd float" => ((k_dflt (refine' Cm.ce_same ?aK ?bK ?cK ?dK ?_; (case aK => k_asm); (case bK => k_asm); (case cK => assumption); (case dK => lcg_src))))
  revert X
  have hx : PySem.Challenge.rw_rw0037_01 = PySem.Challenge.rw_rw0037_01 := rfl
  revert hx
  k_fill
  intro hx X
  show wpAny _ (callerA.deeper (envOfC _ (Scope.mk _ _ _ _ _) _ _ _)) (exec (Stmt.If _ _ _ _) (envOfC _ (Scope.mk _ _ _ _ _) _ _ _)) _ _ _
  (try dsimp only)
  (try k_fold)
  repeat' (first | (((fail_if_success (with_reducible show wpAny _ _ _ _ _ _)); first | (refine Mine.Hi.HidV.out (by with_reducible assumption) _ _ ?_) | (refine Mine.Hi.Hid.nxt (by with_reducible assumption) _ ?_) | (refine Mine.Hi.Hid.oth (by with_reducible assumption) _ _ (fun h => nomatch h) ?_)); (try dsimp only)) | (k_unfold; (try dsimp only)) | ((with_reducible show wpAny _ _ (PySem.evalPart _ _) _ _ _); walk1) | ((with_reducible show wpAny _ _ (PyProof.Rows.subscriptTail _ _ _ _) _ _ _); walk1) | (walk1 <;> (try ((fail_if_success (with_reducible show wpAny _ _ (PyProof.Rows.subscriptTail _ _ _ _) _ _ _)); dsimp only))) | (dsimp only; walk1 <;> (try ((fail_if_success (with_reducible show wpAny _ _ (PyProof.Rows.subscriptTail _ _ _ _) _ _ _)); dsimp only))))
  exact hret _ _ F N
end
end Mine.L5
end
theorem Mine.Off.t25 : True := by
  w_top off
  first | (walk1; done) | trivial
section
open Mine.L0 Mine.Cm
open PySem PySem.W PyProof.Rows PySem.Calls PyProof.V PySem.Spec



namespace Mine.L7
section
variable {w : World} {p : Program} {loose : List Str} {mean : ExcName → Option Value} {mg mb : Str → Option Value} {h₀ : Heap} {L fa : Addr} {cd : Value} {u : Str → Option Value} {news : List (Addr × Obj)} {s : Shared} {Q : Flow → Shared → Prop} {E : Value → Shared → Prop}

theorem ib1 {n : Int} (h0 : 0 ≤ n) (h1 : n ≤ 5) : Builtin.Int.intBits n ≤ 64 := by
  have : n = 0 ∨ n = 1 ∨ n = 2 ∨ n = 3 ∨ n = 4 ∨ n = 5 := by omega
  rcases this with rfl | rfl | rfl | rfl | rfl | rfl <;> decide
theorem wk_bnd {W k : Int} (h1 : 2 ≤ W) (h2 : W ≤ 5) (h3 : 0 ≤ k) (h4 : k ≤ 3) : 0 ≤ W * k ∧ W * k ≤ 1000000 := by
  have : W = 2 ∨ W = 3 ∨ W = 4 ∨ W = 5 := by omega
  rcases this with rfl | rfl | rfl | rfl <;> omega
theorem law_7 {tw W d0 d1 d2 d3 : Int} {tt tW u0 u1 u2 u3 : Tok} {ow op : Obj} {lp : Addr} {k : Nat}
    (F : Fr h₀ L s.heap (fun y => if y = Str.ofString "tower" then some (.int tw tt) else u y)) (X : (hd.heap_39 w.params).In h₀) (N : News h₀ L s.heap news) (T : Top p loose mean mg mb h₀)
    (mw : (L + 1 + 1 + 1, ow) ∈ news) (mp : (L + 1 + 1 + 1 + 1, op) ∈ news) (ml : (lp, listOf #[.int d0 u0, .int d1 u1, .int d2 u2, .int d3 u3] k) ∈ news) (dw : ow.data = Data.cell (some (.int W tW))) (dp : op.data = Data.cell (some (.ref lp)))
    (h1 : 2 ≤ W) (h2 : W ≤ 5) (h00 : 0 ≤ d0) (h01 : d0 ≤ 2) (h10 : 0 ≤ d1) (h11 : d1 ≤ 2) (h20 : 0 ≤ d2) (h21 : d2 ≤ 2) (h30 : 0 ≤ d3) (h31 : d3 ≤ 2)
    (he : tw = d0 * 2 ^ (W * 0).toNat + (d1 * 2 ^ (W * 1).toNat + (d2 * 2 ^ (W * 2).toNat + (d3 * 2 ^ (W * 3).toNat + 0))))
    (hret : ∀ h' tk', Fr h₀ L h' (fun y => if y = Str.ofString "tower" then some (.int tw tt) else u y) → News h₀ L h' news → Q .next { s with heap := h', toks := tk' }) :
    wpAny (model PySem.Challenge.rw_rw0037_01.row.prog w) (lawA L fa cd) (exec (lawSt 7) (envOfC (Str.ofString "law") lawSc L fa cd)) Q E s := by
  k_with_none
  k_with "execs cons" => (first | (k_here; k_gentoks) | (k_here; k_made) | ((with_reducible refine Mine.Hi.ex_hid ?_); intro qH'Q hH'Q; (try dsimp only)))
  k_with "k_mem" => (first | assumption | exact List.Mem.head _ | (refine' List.Mem.tail _ ?_; k_mem))
  k_with "is_list" => (exact News.isList (by k_asm) (by k_mem))
  k_with "CompRest" => ((with_unfolding_all first | (refine LCg.CompRest.succ ?_; intro v'Q I'Q oI'Q C'Q oC'Q D'Q m'Q h'Q tk'Q E'Q hv'Q hC'Q hx'Q F'Q N'Q off'Q ne'Q; (first | lcg_open hv'Q | (obtain ⟨t9', hv9'⟩ := hv'Q; subst hv9')); (try k_sweep); (try dsimp only); (refine Mine.Hi.post_hid ?_; intro qV'Q hV'Q)) | refine LCg.CompRest.zero ?_))
  k_with "CompRestT" => ((with_unfolding_all first | (refine LCt.CompRestT.succ ?_; intro v'Q I'Q oI'Q C'Q oC'Q D'Q m'Q h'Q tk'Q E'Q hv'Q hC'Q hx'Q F'Q N'Q off'Q ne'Q; (first | lcg_open hv'Q | (obtain ⟨t9', hv9'⟩ := hv'Q; subst hv9')); (try k_sweep); (try dsimp only); (refine Mine.Hi.post_hid ?_; intro qV'Q hV'Q)) | refine LCt.CompRestT.zero ?_))
  k_with "CompEnd int" => ((k_dflt (refine' Cm.ce_same ?aK ?bK ?cK ?dK ?_; (case aK => k_asm); (case bK => k_asm); (case cK => assumption); (case dK => lcg_src))))
  k_with "CompEnd none" => ((k_dflt (refine' Cm.ce_same ?aK ?bK ?cK ?dK ?_; (case aK => k_asm); (case bK => k_asm); (case cK => assumption); (case dK => lcg_src))))
  k_with "CompEnd str" => ((k_dflt (refine' Cm.ce_same ?aK ?bK ?cK ?dK ?_; (case aK => k_asm); (case bK => k_asm); (case cK => assumption); (case dK => lcg_src))))
  k_with "CompEnd float" => ((k_dflt (refine' Cm.ce_same ?aK ?bK ?cK ?dK ?_; (case aK => k_asm); (case bK => k_asm); (case cK => assumption); (case dK => lcg_src))))
  k_with "CompSrc" => ((k_here; k_dflt (refine LCg.CompSrc.range (by rfl) (by k_asm) (by k_asm) (by assumption) (by first | decide | rfl) (by first | rfl | decide) (by exact Nat.le_of_ble_eq_true rfl) ?_; intro g'Q; lcg_lit)))
  k_with "binaryOp Mult int int" => ((refine PyProof.Rows.mul_int ?_ (IntMulOk.of_left (ib1 (by first | assumption | omega) (by omega)))))
  k_with "binaryOp Pow int int" => ((refine PyProof.Rows.pow_int_small (wk_bnd (by assumption) (by assumption) (by decide) (by decide)).1 (wk_bnd (by assumption) (by assumption) (by decide) (by decide)).2 (by decide) ?_))
  revert X
  have hx : PySem.Challenge.rw_rw0037_01 = PySem.Challenge.rw_rw0037_01 := rfl
  revert hx
  k_fill
  intro hx X
  show wpAny _ (callerA.deeper (envOfC _ (Scope.mk _ _ _ _ _) _ _ _)) (exec (Stmt.If _ _ _ _) (envOfC _ (Scope.mk _ _ _ _ _) _ _ _)) _ _ _
  skip
  (try dsimp only)
  (try k_fold)
  repeat' (first | (((fail_if_success (with_reducible show wpAny _ _ _ _ _ _)); first | (refine Mine.Hi.HidV.out (by with_reducible assumption) _ _ ?_) | (refine Mine.Hi.Hid.nxt (by with_reducible assumption) _ ?_) | (refine Mine.Hi.Hid.oth (by with_reducible assumption) _ _ (fun h => nomatch h) ?_)); (try dsimp only)) | (k_unfold; (try dsimp only)) | ((with_reducible show wpAny _ _ (PySem.evalPart _ _) _ _ _); walk1) | ((with_reducible show wpAny _ _ (PyProof.Rows.subscriptTail _ _ _ _) _ _ _); walk1) | (walk1 <;> (try ((fail_if_success (with_reducible show wpAny _ _ (PyProof.Rows.subscriptTail _ _ _ _) _ _ _)); dsimp only))) | (dsimp only; walk1 <;> (try ((fail_if_success (with_reducible show wpAny _ _ (PyProof.Rows.subscriptTail _ _ _ _) _ _ _)); dsimp only))))
  all_goals first
    | exact hret _ _ (by k_asm) (fun p hp => (by assumption : News _ _ _ (_ :: news)) p (.tail _ hp))
    | exact absurd he (by assumption)
end
end Mine.L7
end
theorem Mine.Off.t26 : True := by
  w_top off
  first | (walk1; done) | trivial
section
open Mine.L0 Mine.Cm
open PySem PySem.W PyProof.Rows PySem.Calls PyProof.V PySem.Spec



namespace Mine.L9
section
variable {w : World} {p : Program} {loose : List Str} {mean : ExcName → Option Value} {mg mb : Str → Option Value} {h₀ : Heap} {L fa : Addr} {cd : Value} {u : Str → Option Value} {news : List (Addr × Obj)} {s : Shared} {Q : Flow → Shared → Prop} {E : Value → Shared → Prop}


theorem law_9 {d0 d1 d2 d3 : Int} {u0 u1 u2 u3 : Tok} {op : Obj} {lp lg : Addr} {k k' : Nat} {vs : List Value} {ns : List Int}
    (X : (hd.heap_39 w.params).In h₀) (N : News h₀ L s.heap news) (T : Top p loose mean mg mb h₀) (F : Fr h₀ L s.heap (fun y => if y = Str.ofString "digits" then some (.ref lg) else u y)) 
    (mp : (L + 1 + 1 + 1 + 1, op) ∈ news) (ml : (lp, listOf #[.int d0 u0, .int d1 u1, .int d2 u2, .int d3 u3] k) ∈ news) (md : (lg, listOf (List.toArray vs) k') ∈ news) (dp : op.data = Data.cell (some (.ref lp))) (hi : IntsAre vs ns) (hn : ns.length ≤ 4)
    (e1 : ns ++ (List.replicate (4 - (ns.length : Int)).toNat [(0 : Int)]).flatten = [d0, d1, d2, d3]) (e2 : ¬ List.drop (ns.length - 1) ns = [0])
    (hret : ∀ h' tk', Fr h₀ L h' (fun y => if y = Str.ofString "digits" then some (.ref lg) else u y) → News h₀ L h' news → Q .next { s with heap := h', toks := tk' }) :
    wpAny (model PySem.Challenge.rw_rw0037_01.row.prog w) (lawA L fa cd) (exec (lawSt 9) (envOfC (Str.ofString "law") lawSc L fa cd)) Q E s := by
  k_with_none
  k_with "execs cons" => (first | (k_here; k_gentoks) | (k_here; k_made) | ((with_reducible refine Mine.Hi.ex_hid ?_); intro qH'Q hH'Q; (try dsimp only)))
  k_with "k_mem" => (first | assumption | exact List.Mem.head _ | (refine' List.Mem.tail _ ?_; k_mem))
  k_with "is_list" => (exact News.isList (by k_asm) (by k_mem))
  k_with "CompRest" => ((with_unfolding_all first | (refine LCg.CompRest.succ ?_; intro v'Q I'Q oI'Q C'Q oC'Q D'Q m'Q h'Q tk'Q E'Q hv'Q hC'Q hx'Q F'Q N'Q off'Q ne'Q; (first | lcg_open hv'Q | (obtain ⟨t9', hv9'⟩ := hv'Q; subst hv9')); (try k_sweep); (try dsimp only); (refine Mine.Hi.post_hid ?_; intro qV'Q hV'Q)) | refine LCg.CompRest.zero ?_))
  k_with "CompRestT" => ((with_unfolding_all first | (refine LCt.CompRestT.succ ?_; intro v'Q I'Q oI'Q C'Q oC'Q D'Q m'Q h'Q tk'Q E'Q hv'Q hC'Q hx'Q F'Q N'Q off'Q ne'Q; (first | lcg_open hv'Q | (obtain ⟨t9', hv9'⟩ := hv'Q; subst hv9')); (try k_sweep); (try dsimp only); (refine Mine.Hi.post_hid ?_; intro qV'Q hV'Q)) | refine LCt.CompRestT.zero ?_))
  k_with "CompEnd int" => ((k_dflt (refine' Cm.ce_same ?aK ?bK ?cK ?dK ?_; (case aK => k_asm); (case bK => k_asm); (case cK => assumption); (case dK => lcg_src))))
  k_with "CompEnd none" => ((k_dflt (refine' Cm.ce_same ?aK ?bK ?cK ?dK ?_; (case aK => k_asm); (case bK => k_asm); (case cK => assumption); (case dK => lcg_src))))
  k_with "CompEnd str" => ((k_dflt (refine' Cm.ce_same ?aK ?bK ?cK ?dK ?_; (case aK => k_asm); (case bK => k_asm); (case cK => assumption); (case dK => lcg_src))))
  k_with "CompEnd float" => ((k_dflt (refine' Cm.ce_same ?aK ?bK ?cK ?dK ?_; (case aK => k_asm); (case bK => k_asm); (case cK => assumption); (case dK => lcg_src))))
  revert X
  have hx : PySem.Challenge.rw_rw0037_01 = PySem.Challenge.rw_rw0037_01 := rfl
  revert hx
  k_fill
  intro hx X
  show wpAny _ (callerA.deeper (envOfC _ (Scope.mk _ _ _ _ _) _ _ _)) (exec (Stmt.If _ _ _ _) (envOfC _ (Scope.mk _ _ _ _ _) _ _ _)) _ _ _
  (try dsimp only)
  (try k_fold)
  repeat' (first | (((fail_if_success (with_reducible show wpAny _ _ _ _ _ _)); first | (refine Mine.Hi.HidV.out (by with_reducible assumption) _ _ ?_) | (refine Mine.Hi.Hid.nxt (by with_reducible assumption) _ ?_) | (refine Mine.Hi.Hid.oth (by with_reducible assumption) _ _ (fun h => nomatch h) ?_)); (try dsimp only)) | (k_unfold; (try dsimp only)) | ((with_reducible show wpAny _ _ (PySem.evalPart _ _) _ _ _); walk1) | ((with_reducible show wpAny _ _ (PyProof.Rows.subscriptTail _ _ _ _) _ _ _); walk1) | (walk1 <;> (try ((fail_if_success (with_reducible show wpAny _ _ (PyProof.Rows.subscriptTail _ _ _ _) _ _ _)); dsimp only))) | (dsimp only; walk1 <;> (try ((fail_if_success (with_reducible show wpAny _ _ (PyProof.Rows.subscriptTail _ _ _ _) _ _ _)); dsimp only))))
  all_goals (try k_data)
  all_goals first
    | exact absurd (by assumption) e2
    | exact absurd e1 (by assumption)
    | exact hret _ _ (by k_asm) (fun p hp => (by assumption : News _ _ _ (_ :: _ :: _ :: _ :: _ :: news)) p (.tail _ (.tail _ (.tail _ (.tail _ (.tail _ hp))))))
end
end Mine.L9
end
theorem Mine.Off.t27 : True := by
  w_top off
  first | (walk1; done) | trivial
section
open Mine.L0 Mine.Cm
open PySem PySem.W PyProof.Rows PySem.Calls PyProof.V PySem.Spec



namespace Mine.L12
section
variable {w : World} {p : Program} {loose : List Str} {mean : ExcName → Option Value} {mg mb : Str → Option Value} {h₀ : Heap} {L fa : Addr} {cd : Value} {u : Str → Option Value} {news : List (Addr × Obj)} {s : Shared} {Q : Flow → Shared → Prop} {E : Value → Shared → Prop}


noncomputable abbrev IK (w : World) := PySem.intKind PySem.Challenge.rw_rw0037_01.row.prog w
theorem kget {prog : Program} {A : Around} {E : Value → Shared → Prop} {d : Addr} {c : List (Int × Int)} {k e x : Int} {tk te : Tok} {Q : Value → Shared → Prop} (T : IntTab prog w s.heap d (kdfD c)) (hx : kdfLook c k e = x) (h : ∀ t, Q (.int x t) { s with toks := s.toks + 1 }) : wpAny (model prog w) A (call (.builtin "dict.get") [.ref d, .int k tk, .int e te]) Q E s := by
  subst hx; exact kdf_get2 T h
noncomputable def lightF (x : Int) : UInt64 := Float64.ofFrac (decide (x < 0) != decide ((16 : Int) < 0)) x.natAbs (Int.natAbs 16)
theorem light_fin {x : Int} (h : 0 ≤ x ∧ x ≤ 16) : ¬ Float64.isInf (lightF x) = true := by
  have : ∀ i : Fin 17, ¬ Float64.isInf (lightF (i.val : Int)) = true := by decide +kernel
  have q := this ⟨x.toNat, by omega⟩
  rwa [show ((x.toNat : Nat) : Int) = x by omega] at q
theorem kdiv {prog : Program} {A : Around} {E : Value → Shared → Prop} {x : Int} {t v : Tok} {Q : Value → Shared → Prop} (hx : 0 ≤ x ∧ x ≤ 16) (h : Q (.float (lightF x) s.toks) { s with toks := s.toks + 1 }) : wpAny (model prog w) A (binaryOp .Div (.int x t) (.int 16 v)) Q E s :=
  AutoIntOps.truediv_2 (by decide) (light_fin hx) h
theorem law_12 {c : List (Int × Int)} {on : Int} {to : Tok} {oy oo od : Obj} {ld : Addr} {kvs : List (Int × Value)}
    (X : (hd.heap_39 w.params).In h₀) (N : News h₀ L s.heap news) (T : Top p loose mean mg mb h₀) (F : Fr h₀ L s.heap (u))
    (my : (L + 1 + 1 + 1 + 1 + 1, oy) ∈ news) (mo : (L + 1 + 1 + 1 + 1 + 1 + 1, oo) ∈ news) (md : (ld, od) ∈ news) (dy : oy.data = Data.cell (some (.ref ld))) (do_ : oo.data = Data.cell (some (.int on to))) (hd : od.IsDictOf (IK w) kvs) (hf : FlatPairs PyData.int kvs (kdfD c))
    (lo : (ld == sysModules) = false) {x0 x1 x2 : Int} (e0 : kdfLook c (0 * on) 16 = x0) (e1 : kdfLook c (1 * on) 16 = x1) (e2 : kdfLook c (2 * on) 16 = x2) (b0 : 0 ≤ x0 ∧ x0 ≤ 16) (b1 : 0 ≤ x1 ∧ x1 ≤ 16) (b2 : 0 ≤ x2 ∧ x2 ≤ 16)
    (hret : ∀ h' tk' D t0 t1 t2 k, Fr h₀ L h' (fun y => if y = Str.ofString "light" then some (.ref D) else u y) → News h₀ L h' ((D, listOf #[.float (lightF x0) t0, .float (lightF x1) t1, .float (lightF x2) t2] k) :: news) → Q .next { s with heap := h', toks := tk' }) :
    wpAny (model PySem.Challenge.rw_rw0037_01.row.prog w) (lawA L fa cd) (exec (lawSt 12) (envOfC (Str.ofString "law") lawSc L fa cd)) Q E s := by
  k_with_none
  k_with "execs cons" => (first | (k_here; k_gentoks) | (k_here; k_made) | ((with_reducible refine Mine.Hi.ex_hid ?_); intro qH'Q hH'Q; (try dsimp only)))
  k_with "k_mem" => (first | assumption | exact List.Mem.head _ | (refine' List.Mem.tail _ ?_; k_mem))
  k_with "is_list" => (exact News.isList (by k_asm) (by k_mem))
  k_with "CompRest" => ((with_unfolding_all first | (refine LCg.CompRest.succ ?_; intro v'Q I'Q oI'Q C'Q oC'Q D'Q m'Q h'Q tk'Q E'Q hv'Q hC'Q hx'Q F'Q N'Q off'Q ne'Q; (first | lcg_open hv'Q | (obtain ⟨t9', hv9'⟩ := hv'Q; subst hv9')); (try k_sweep); (try dsimp only); (refine Mine.Hi.post_hid ?_; intro qV'Q hV'Q)) | refine LCg.CompRest.zero ?_))
  k_with "CompRestT" => ((with_unfolding_all first | (refine LCt.CompRestT.succ ?_; intro v'Q I'Q oI'Q C'Q oC'Q D'Q m'Q h'Q tk'Q E'Q hv'Q hC'Q hx'Q F'Q N'Q off'Q ne'Q; (first | lcg_open hv'Q | (obtain ⟨t9', hv9'⟩ := hv'Q; subst hv9')); (try k_sweep); (try dsimp only); (refine Mine.Hi.post_hid ?_; intro qV'Q hV'Q)) | refine LCt.CompRestT.zero ?_))
  k_with "CompEnd int" => ((k_dflt (refine' Cm.ce_same ?aK ?bK ?cK ?dK ?_; (case aK => k_asm); (case bK => k_asm); (case cK => assumption); (case dK => lcg_src))))
  k_with "CompEnd none" => ((k_dflt (refine' Cm.ce_same ?aK ?bK ?cK ?dK ?_; (case aK => k_asm); (case bK => k_asm); (case cK => assumption); (case dK => lcg_src))))
  k_with "CompEnd str" => ((k_dflt (refine' Cm.ce_same ?aK ?bK ?cK ?dK ?_; (case aK => k_asm); (case bK => k_asm); (case cK => assumption); (case dK => lcg_src))))
  k_with "CompEnd float" => ((k_dflt (refine' Cm.ce_same ?aK ?bK ?cK ?dK ?_; (case aK => k_asm); (case bK => k_asm); (case cK => assumption); (case dK => lcg_src))))
  k_with "CompSrc" => ((k_here; k_dflt (refine LCg.CompSrc.range (by rfl) (by k_asm) (by k_asm) (by assumption) (by first | decide | rfl) (by first | rfl | decide) (by exact Nat.le_of_ble_eq_true rfl) ?_; intro g'Q; lcg_lit)))
  k_with "getMethod ref" => ((k_here; (with_reducible show wpAny _ _ (getMethod (Value.ref _) _ _) _ _ _); k_dflt (refine' kdg_method (knd := PySem.intKind _ _) ?aK ?bK ?cK ?_; (case aK => k_asm); (case bK => k_mem); (case cK => k_asm))))
  k_with "call builtin:dict.get" => ((k_here; k_dflt (refine' kget ?TK ?xK ?_; (case TK => k_tabat); (case xK => assumption)); intro _))
  k_with "binaryOp Div int int" => ((refine kdiv (by assumption) ?_))
  revert X
  have hx : PySem.Challenge.rw_rw0037_01 = PySem.Challenge.rw_rw0037_01 := rfl
  revert hx
  k_fill
  intro hx X
  show wpAny _ (callerA.deeper (envOfC _ (Scope.mk _ _ _ _ _) _ _ _)) (exec (Stmt.Assign [Expr.Name _ _] _ _) (envOfC _ (Scope.mk _ _ _ _ _) _ _ _)) _ _ _
  (try dsimp only)
  (try k_fold)
  repeat' (first | (((fail_if_success (with_reducible show wpAny _ _ _ _ _ _)); first | (refine Mine.Hi.HidV.out (by with_reducible assumption) _ _ ?_) | (refine Mine.Hi.Hid.nxt (by with_reducible assumption) _ ?_) | (refine Mine.Hi.Hid.oth (by with_reducible assumption) _ _ (fun h => nomatch h) ?_)); (try dsimp only)) | (k_unfold; (try dsimp only)) | ((with_reducible show wpAny _ _ (PySem.evalPart _ _) _ _ _); walk1) | ((with_reducible show wpAny _ _ (PyProof.Rows.subscriptTail _ _ _ _) _ _ _); walk1) | (walk1 <;> (try ((fail_if_success (with_reducible show wpAny _ _ (PyProof.Rows.subscriptTail _ _ _ _) _ _ _)); dsimp only))) | (dsimp only; walk1 <;> (try ((fail_if_success (with_reducible show wpAny _ _ (PyProof.Rows.subscriptTail _ _ _ _) _ _ _)); dsimp only))))
  exact hret _ _ _ _ _ _ _ (by k_asm) (by k_asm)
end
end Mine.L12
end
theorem Mine.Off.t28 : True := by
  w_top off
  first | (walk1; done) | trivial
section
open Mine.L0 Mine.Cm Mine.F1
open PySem PySem.W PyProof.Rows PySem.Calls PyProof.V PySem.Spec



namespace Mine.L13
section
variable {w : World} {p : Program} {loose : List Str} {mean : ExcName → Option Value} {mg mb : Str → Option Value} {h₀ : Heap} {L fa : Addr} {cd : Value} {u : Str → Option Value} {news : List (Addr × Obj)} {s : Shared} {Q : Flow → Shared → Prop} {E : Value → Shared → Prop}

theorem law_13 {f0 f1 f2 : UInt64} {u0 u1 u2 : Tok} {ll : Addr} {k : Nat}
    (X : (hd.heap_39 w.params).In h₀) (N : News h₀ L s.heap news) (T : Top p loose mean mg mb h₀) (F : Fr h₀ L s.heap (fun y => if y = Str.ofString "light" then some (.ref ll) else u y)) (B : Below callerA h₀ [] h₀)
    (ml : (ll, listOf #[.float f0 u0, .float f1 u1, .float f2 u2] k) ∈ news) (ok : rgbOk (mxF (mxF f0 f1) f2) (mnF (mnF f0 f1) f2))
    (hret : ∀ h' tk' x y z t t1 t2, rgbG (mxF (mxF f0 f1) f2) (mnF (mnF f0 f1) f2) f0 f1 f2 = (x, y, z) → Fr h₀ L h' (fun q => if q = Str.ofString "share" then some (.float z t) else if q = Str.ofString "level" then some (.float y t1) else if q = Str.ofString "hue" then some (.float x t2) else if q = Str.ofString "light" then some (.ref ll) else u q) → News h₀ L h' news → Q .next { s with heap := h', toks := tk' }) :
    wpAny (model PySem.Challenge.rw_rw0037_01.row.prog w) (lawA L fa cd) (exec (lawSt 13) (envOfC (Str.ofString "law") lawSc L fa cd)) Q E s := by
  k_with_none
  k_with "execs cons" => (first | (k_here; k_gentoks) | (k_here; k_made) | ((with_reducible refine Mine.Hi.ex_hid ?_); intro qH'Q hH'Q; (try dsimp only)))
  k_with "k_mem" => (first | assumption | exact List.Mem.head _ | (refine' List.Mem.tail _ ?_; k_mem))
  k_with "is_list" => (exact News.isList (by k_asm) (by k_mem))
  k_with "call ref" => (((with_reducible show wpAny _ _ (call (Value.ref 21) _) _ _ _); k_dflt (refine' rgb_call ?zBK ?zFK ?zXK ?zNK ?zTK ?zkK ?zdK ?zuK ?z1K ?_; (case zBK => k_asm); (case zFK => k_asm); (case zXK => k_asm); (case zNK => k_asm); (case zTK => k_asm); (case zkK => first | exact rfl | assumption); (case zdK => ktr_room); (case zuK => ktr_units); (case z1K => assumption); k_whole); intro D'Q x'Q y'Q z'Q t'Q t1'Q t2'Q h'Q tk'Q e'Q F'Q N'Q l1Q; (try k_sweep); (try dsimp only); (try k_fold)))
  revert X
  have hx : PySem.Challenge.rw_rw0037_01 = PySem.Challenge.rw_rw0037_01 := rfl
  revert hx
  k_fill
  intro hx X
  show wpAny _ (callerA.deeper (envOfC _ (Scope.mk _ _ _ _ _) _ _ _)) (exec (Stmt.Assign [_] _ _) (envOfC _ (Scope.mk _ _ _ _ _) _ _ _)) _ _ _
  (try dsimp only)
  (try k_fold)
  repeat' (first | (((fail_if_success (with_reducible show wpAny _ _ _ _ _ _)); first | (refine Mine.Hi.HidV.out (by with_reducible assumption) _ _ ?_) | (refine Mine.Hi.Hid.nxt (by with_reducible assumption) _ ?_) | (refine Mine.Hi.Hid.oth (by with_reducible assumption) _ _ (fun h => nomatch h) ?_)); (try dsimp only)) | (k_unfold; (try dsimp only)) | ((with_reducible show wpAny _ _ (PySem.evalPart _ _) _ _ _); walk1) | ((with_reducible show wpAny _ _ (PyProof.Rows.subscriptTail _ _ _ _) _ _ _); walk1) | (walk1 <;> (try ((fail_if_success (with_reducible show wpAny _ _ (PyProof.Rows.subscriptTail _ _ _ _) _ _ _)); dsimp only))) | (dsimp only; walk1 <;> (try ((fail_if_success (with_reducible show wpAny _ _ (PyProof.Rows.subscriptTail _ _ _ _) _ _ _)); dsimp only))))
  skip
  all_goals first
    | exact hret _ _ _ _ _ _ _ _ (by assumption) (by k_asm) (fun p hp => (by assumption : News _ _ _ (_ :: news)) p (.tail _ hp))
    | skip
end
end Mine.L13
end
theorem Mine.Off.t29 : True := by
  w_top off
  first | (walk1; done) | trivial
section
open Mine.L0 Mine.Cm Mine.F2 Mine.Ct
open PySem PySem.W PyProof.Rows PySem.Calls PyProof.V PySem.Spec



namespace Mine.L14
section
variable {w : World} {p : Program} {loose : List Str} {mean : ExcName → Option Value} {mg mb : Str → Option Value} {h₀ : Heap} {L fa : Addr} {cd : Value} {u : Str → Option Value} {news : List (Addr × Obj)} {s : Shared} {Q : Flow → Shared → Prop} {E : Value → Shared → Prop}


section
variable {dp un : Nat} {gd : Option (List Code)} {cn : Str} {cs : Scope} {a : Addr} {ccd : Value} {cl : List (Str × Addr)} {outer : List Env} {A₀ : Around} {base : Heap} {m : Str → Option Value} {Q : Value → Shared → Prop}
theorem hls_at {h l sh x y z : UInt64} {t1 t2 t3 : Tok}
    (B : Below A₀ base outer h₀) (F : Fr h₀ L s.heap m) (X : (hd.heap_39 w.params).In h₀) (N : News h₀ L s.heap news) (T : Top p loose mean mg mb h₀) (hk : cs.kind = .function)
    (hd : dp + 3 < recursionLimit) (hu : un + 24 < cLine) (e : hlsF h l sh = (x, y, z))
    (hret : ∀ D t t' t'' h' tk', Fr h₀ L h' m → News h₀ L h' ((D, { cls := .type "tuple", data := .seq #[.float x t, .float y t', .float z t''] }) :: news) → (∀ p ∈ news, p.1 < D) → Q (.ref D) { s with heap := h', toks := tk' }) :
    wpAny (model PySem.Challenge.rw_rw0037_01.row.prog w) (ktrTop dp un gd cn cs L a ccd cl outer) (call (.ref 28) [.float h t1, .float l t2, .float sh t3]) Q E s :=
  hls_call B F X N T hk hd hu fun D x' y' z' t t' t'' h' tk' e' F' N' l' => by
    have q := e.symm.trans e'
    obtain ⟨rfl, q2⟩ := Prod.mk.inj q
    obtain ⟨rfl, rfl⟩ := Prod.mk.inj q2
    exact hret D t t' t'' h' tk' F' N' l'
end
noncomputable def partI (a : UInt64) : Int := PySem.Flt.toInt Float64.truncOf (Float64.add (Float64.mul (Float64.ofInt 16) a) 4602678819172646912)
theorem law_14 {f0 f1 f2 : UInt64} {u0 u1 u2 : Tok}
    (X : (hd.heap_39 w.params).In h₀) (N : News h₀ L s.heap news) (T : Top p loose mean mg mb h₀) (F : Fr h₀ L s.heap (fun q => if q = Str.ofString "share" then some (.float f2 u2) else if q = Str.ofString "level" then some (.float f1 u1) else if q = Str.ofString "hue" then some (.float f0 u0) else u q)) (B : Below callerA h₀ [] h₀)
    {a b c : UInt64} (e : hlsF f0 f1 f2 = (a, b, c)) (c0 : Float64.isFinite (Float64.add (Float64.mul (Float64.ofInt 16) a) 4602678819172646912) = true) (c1 : Float64.isFinite (Float64.add (Float64.mul (Float64.ofInt 16) b) 4602678819172646912) = true) (c2 : Float64.isFinite (Float64.add (Float64.mul (Float64.ofInt 16) c) 4602678819172646912) = true)
    (hret : ∀ h' tk' D t0 t1 t2 k, Fr h₀ L h' (fun q => if q = Str.ofString "parts" then some (.ref D) else if q = Str.ofString "share" then some (.float f2 u2) else if q = Str.ofString "level" then some (.float f1 u1) else if q = Str.ofString "hue" then some (.float f0 u0) else u q) → News h₀ L h' ((D, listOf #[.int (partI a) t0, .int (partI b) t1, .int (partI c) t2] k) :: news) → Q .next { s with heap := h', toks := tk' }) :
    wpAny (model PySem.Challenge.rw_rw0037_01.row.prog w) (lawA L fa cd) (exec (lawSt 14) (envOfC (Str.ofString "law") lawSc L fa cd)) Q E s := by
  k_with_none
  k_with "execs cons" => (first | (k_here; k_gentoks) | (k_here; k_made) | ((with_reducible refine Mine.Hi.ex_hid ?_); intro qH'Q hH'Q; (try dsimp only)))
  k_with "k_mem" => (first | assumption | exact List.Mem.head _ | (refine' List.Mem.tail _ ?_; k_mem))
  k_with "is_list" => (exact News.isList (by k_asm) (by k_mem))
  k_with "CompRest" => ((with_unfolding_all first | (refine LCg.CompRest.succ ?_; intro v'Q I'Q oI'Q C'Q oC'Q D'Q m'Q h'Q tk'Q E'Q hv'Q hC'Q hx'Q F'Q N'Q off'Q ne'Q; (first | lcg_open hv'Q | (obtain ⟨t9', hv9'⟩ := hv'Q; subst hv9')); (try k_sweep); (try dsimp only); (refine Mine.Hi.post_hid ?_; intro qV'Q hV'Q)) | refine LCg.CompRest.zero ?_))
  k_with "CompRestT" => ((with_unfolding_all first | (refine LCt.CompRestT.succ ?_; intro v'Q I'Q oI'Q C'Q oC'Q D'Q m'Q h'Q tk'Q E'Q hv'Q hC'Q hx'Q F'Q N'Q off'Q ne'Q; (first | lcg_open hv'Q | (obtain ⟨t9', hv9'⟩ := hv'Q; subst hv9')); (try k_sweep); (try dsimp only); (refine Mine.Hi.post_hid ?_; intro qV'Q hV'Q)) | refine LCt.CompRestT.zero ?_))
  k_with "CompEnd int" => ((k_dflt (refine' Cm.ce_same ?aK ?bK ?cK ?dK ?_; (case aK => k_asm); (case bK => k_asm); (case cK => assumption); (case dK => lcg_src))))
  k_with "CompEnd none" => ((k_dflt (refine' Cm.ce_same ?aK ?bK ?cK ?dK ?_; (case aK => k_asm); (case bK => k_asm); (case cK => assumption); (case dK => lcg_src))))
  k_with "CompEnd str" => ((k_dflt (refine' Cm.ce_same ?aK ?bK ?cK ?dK ?_; (case aK => k_asm); (case bK => k_asm); (case cK => assumption); (case dK => lcg_src))))
  k_with "CompEnd float" => ((k_dflt (refine' Cm.ce_same ?aK ?bK ?cK ?dK ?_; (case aK => k_asm); (case bK => k_asm); (case cK => assumption); (case dK => lcg_src))))
  k_with "call ref" => (((with_reducible show wpAny _ _ (call (Value.ref 28) _) _ _ _); k_dflt (refine' hls_at ?zBK ?zFK ?zXK ?zNK ?zTK ?zkK ?zdK ?zuK ?zeK ?_; (case zBK => k_asm); (case zFK => k_asm); (case zXK => k_asm); (case zNK => k_asm); (case zTK => k_asm); (case zkK => first | exact rfl | assumption); (case zdK => ktr_room); (case zuK => ktr_units); (case zeK => with_reducible assumption); k_whole); intro D'Q t'Q t1'Q t2'Q h'Q tk'Q F'Q N'Q l1Q; (try k_sweep); (try dsimp only); (try k_fold)))
  k_with "exec Assign cons ListComp" => ((k_here; k_dflt (refine' Assign_TU (F₀ := ?eFK) ?e1K ?e2K ?e3K ?e4K ?e5K ?e6K ?e7K ?e8K ?e9K ?_; (case eFK => k_asm); (case e1K => rfl); (case e2K => with_unfolding_all rfl); (case e3K => with_unfolding_all rfl); (case e4K => decide); (case e5K => rfl); (case e6K => decide); (case e7K => rfl); (case e8K => rfl); (case e9K => rfl))))
  k_with "SrcTU" => ((k_here; k_dflt (refine' SrcTU.mk' ?hhK ?FK ?NK ?mK ?zK ?_; (case hhK => rfl); (case FK => k_asm); (case NK => k_asm); (case mK => k_mem); (case zK => exact Nat.le_of_ble_eq_true rfl)); intro g'Q; lcg_lit))
  k_with "lcg_src" => (k_mem)
  revert X
  have hx : PySem.Challenge.rw_rw0037_01 = PySem.Challenge.rw_rw0037_01 := rfl
  revert hx
  k_fill
  intro hx X
  show wpAny _ (callerA.deeper (envOfC _ (Scope.mk _ _ _ _ _) _ _ _)) (exec (Stmt.Assign [Expr.Name _ _] _ _) (envOfC _ (Scope.mk _ _ _ _ _) _ _ _)) _ _ _
  (try dsimp only)
  (try k_fold)
  repeat' (first | (((fail_if_success (with_reducible show wpAny _ _ _ _ _ _)); first | (refine Mine.Hi.HidV.out (by with_reducible assumption) _ _ ?_) | (refine Mine.Hi.Hid.nxt (by with_reducible assumption) _ ?_) | (refine Mine.Hi.Hid.oth (by with_reducible assumption) _ _ (fun h => nomatch h) ?_)); (try dsimp only)) | (k_unfold; (try dsimp only)) | ((with_reducible show wpAny _ _ (PySem.evalPart _ _) _ _ _); walk1) | ((with_reducible show wpAny _ _ (PyProof.Rows.subscriptTail _ _ _ _) _ _ _); walk1) | (walk1 <;> (try ((fail_if_success (with_reducible show wpAny _ _ (PyProof.Rows.subscriptTail _ _ _ _) _ _ _)); dsimp only))) | (dsimp only; walk1 <;> (try ((fail_if_success (with_reducible show wpAny _ _ (PyProof.Rows.subscriptTail _ _ _ _) _ _ _)); dsimp only))))
  skip
  all_goals first
    | exact hret _ _ _ _ _ _ _ (by k_asm) (fun p hp => by
        rcases List.mem_cons.mp hp with rfl | hp
        · exact (by assumption : News _ _ _ (_ :: _ :: news)) _ (.head _)
        · exact (by assumption : News _ _ _ (_ :: _ :: news)) _ (.tail _ (.tail _ hp)))
    | exact absurd c0 (by assumption)
    | exact absurd c1 (by assumption)
    | exact absurd c2 (by assumption)
    | skip
end
end Mine.L14
end
theorem Mine.Off.t30 : True := by
  w_top off
  first | (walk1; done) | trivial
section
open Mine.L0 Mine.Cm
open PySem PySem.W PyProof.Rows PySem.Calls PyProof.V PySem.Spec



namespace Mine.L15
section
variable {w : World} {p : Program} {loose : List Str} {mean : ExcName → Option Value} {mg mb : Str → Option Value} {h₀ : Heap} {L fa : Addr} {cd : Value} {u : Str → Option Value} {news : List (Addr × Obj)} {s : Shared} {Q : Flow → Shared → Prop} {E : Value → Shared → Prop}


theorem law_15 {f0 f1 f2 : UInt64} {x0 x1 x2 : Int} {u0 u1 u2 v0 v1 v2 : Tok} {ll lp : Addr} {k k' : Nat}
    (X : (hd.heap_39 w.params).In h₀) (N : News h₀ L s.heap news) (T : Top p loose mean mg mb h₀) (F : Fr h₀ L s.heap (fun q => if q = Str.ofString "parts" then some (.ref lp) else if q = Str.ofString "light" then some (.ref ll) else u q))
    (ml : (ll, listOf #[.float f0 u0, .float f1 u1, .float f2 u2] k) ∈ news) (mp : (lp, listOf #[.int x0 v0, .int x1 v1, .int x2 v2] k') ∈ news)
    (c0 : Float64.isFinite (Float64.mul (Float64.ofInt 16) f0) = true) (c1 : Float64.isFinite (Float64.mul (Float64.ofInt 16) f1) = true) (c2 : Float64.isFinite (Float64.mul (Float64.ofInt 16) f2) = true)
    (e : [x0, x1, x2] = [PySem.Flt.toInt Float64.truncOf (Float64.mul (Float64.ofInt 16) f0), PySem.Flt.toInt Float64.truncOf (Float64.mul (Float64.ofInt 16) f1), PySem.Flt.toInt Float64.truncOf (Float64.mul (Float64.ofInt 16) f2)])
    (hret : ∀ h' tk', Fr h₀ L h' (fun q => if q = Str.ofString "parts" then some (.ref lp) else if q = Str.ofString "light" then some (.ref ll) else u q) → News h₀ L h' news → Q .next { s with heap := h', toks := tk' }) :
    wpAny (model PySem.Challenge.rw_rw0037_01.row.prog w) (lawA L fa cd) (exec (lawSt 15) (envOfC (Str.ofString "law") lawSc L fa cd)) Q E s := by
  k_with_none
  k_with "execs cons" => (first | (k_here; k_gentoks) | (k_here; k_made) | ((with_reducible refine Mine.Hi.ex_hid ?_); intro qH'Q hH'Q; (try dsimp only)))
  k_with "k_mem" => (first | assumption | exact List.Mem.head _ | (refine' List.Mem.tail _ ?_; k_mem))
  k_with "is_list" => (exact News.isList (by k_asm) (by k_mem))
  k_with "CompRest" => ((with_unfolding_all first | (refine LCg.CompRest.succ ?_; intro v'Q I'Q oI'Q C'Q oC'Q D'Q m'Q h'Q tk'Q E'Q hv'Q hC'Q hx'Q F'Q N'Q off'Q ne'Q; (first | lcg_open hv'Q | (obtain ⟨t9', hv9'⟩ := hv'Q; subst hv9')); (try k_sweep); (try dsimp only); (refine Mine.Hi.post_hid ?_; intro qV'Q hV'Q)) | refine LCg.CompRest.zero ?_))
  k_with "CompRestT" => ((with_unfolding_all first | (refine LCt.CompRestT.succ ?_; intro v'Q I'Q oI'Q C'Q oC'Q D'Q m'Q h'Q tk'Q E'Q hv'Q hC'Q hx'Q F'Q N'Q off'Q ne'Q; (first | lcg_open hv'Q | (obtain ⟨t9', hv9'⟩ := hv'Q; subst hv9')); (try k_sweep); (try dsimp only); (refine Mine.Hi.post_hid ?_; intro qV'Q hV'Q)) | refine LCt.CompRestT.zero ?_))
  k_with "CompEnd int" => ((k_dflt (refine' Cm.ce_same ?aK ?bK ?cK ?dK ?_; (case aK => k_asm); (case bK => k_asm); (case cK => assumption); (case dK => lcg_src))))
  k_with "CompEnd none" => ((k_dflt (refine' Cm.ce_same ?aK ?bK ?cK ?dK ?_; (case aK => k_asm); (case bK => k_asm); (case cK => assumption); (case dK => lcg_src))))
  k_with "CompEnd str" => ((k_dflt (refine' Cm.ce_same ?aK ?bK ?cK ?dK ?_; (case aK => k_asm); (case bK => k_asm); (case cK => assumption); (case dK => lcg_src))))
  k_with "CompEnd float" => ((k_dflt (refine' Cm.ce_same ?aK ?bK ?cK ?dK ?_; (case aK => k_asm); (case bK => k_asm); (case cK => assumption); (case dK => lcg_src))))
  revert X
  have hx : PySem.Challenge.rw_rw0037_01 = PySem.Challenge.rw_rw0037_01 := rfl
  revert hx
  k_fill
  intro hx X
  show wpAny _ (callerA.deeper (envOfC _ (Scope.mk _ _ _ _ _) _ _ _)) (exec (Stmt.If _ _ _ _) (envOfC _ (Scope.mk _ _ _ _ _) _ _ _)) _ _ _
  (try dsimp only)
  (try k_fold)
  repeat' (first | (((fail_if_success (with_reducible show wpAny _ _ _ _ _ _)); first | (refine Mine.Hi.HidV.out (by with_reducible assumption) _ _ ?_) | (refine Mine.Hi.Hid.nxt (by with_reducible assumption) _ ?_) | (refine Mine.Hi.Hid.oth (by with_reducible assumption) _ _ (fun h => nomatch h) ?_)); (try dsimp only)) | (k_unfold; (try dsimp only)) | ((with_reducible show wpAny _ _ (PySem.evalPart _ _) _ _ _); walk1) | ((with_reducible show wpAny _ _ (PyProof.Rows.subscriptTail _ _ _ _) _ _ _); walk1) | (walk1 <;> (try ((fail_if_success (with_reducible show wpAny _ _ (PyProof.Rows.subscriptTail _ _ _ _) _ _ _)); dsimp only))) | (dsimp only; walk1 <;> (try ((fail_if_success (with_reducible show wpAny _ _ (PyProof.Rows.subscriptTail _ _ _ _) _ _ _)); dsimp only))))
  skip
  all_goals first
    | exact hret _ _ (by k_asm) (fun p hp => (by assumption : News _ _ _ (_ :: news)) p (.tail _ hp))
    | exact absurd e (by assumption)
    | exact absurd c0 (by assumption)
    | exact absurd c1 (by assumption)
    | exact absurd c2 (by assumption)
    | skip
end
end Mine.L15
end
theorem Mine.Off.t31 : True := by
  w_top off
  first | (walk1; done) | trivial
section
open Mine.L0 Mine.Cm Mine.Fs
open PySem PySem.W PyProof.Rows PySem.Calls PyProof.V PySem.Spec



namespace Mine.L16
section
variable {w : World} {p : Program} {loose : List Str} {mean : ExcName → Option Value} {mg mb : Str → Option Value} {h₀ : Heap} {L fa : Addr} {cd : Value} {u : Str → Option Value} {news : List (Addr × Obj)} {s : Shared} {Q : Flow → Shared → Prop} {E : Value → Shared → Prop}

noncomputable def greyF (f0 f1 f2 : UInt64) : UInt64 := Float64.div (fTot (fun i => [f0, f1, f2].getD i 0) 2) (Float64.ofInt 3)
theorem law_16 {f0 f1 f2 : UInt64} {u0 u1 u2 : Tok} {ll : Addr} {k : Nat}
    (X : (hd.heap_39 w.params).In h₀) (N : News h₀ L s.heap news) (T : Top p loose mean mg mb h₀) (F : Fr h₀ L s.heap (fun y => if y = Str.ofString "light" then some (.ref ll) else u y))
    (ml : (ll, listOf #[.float f0 u0, .float f1 u1, .float f2 u2] k) ∈ news)
    (hret : ∀ h' tk' t, Fr h₀ L h' (fun y => if y = Str.ofString "grey" then some (.float (greyF f0 f1 f2) t) else if y = Str.ofString "light" then some (.ref ll) else u y) → News h₀ L h' news → Q .next { s with heap := h', toks := tk' }) :
    wpAny (model PySem.Challenge.rw_rw0037_01.row.prog w) (lawA L fa cd) (exec (lawSt 16) (envOfC (Str.ofString "law") lawSc L fa cd)) Q E s := by
  k_with_none
  k_with "execs cons" => (first | (k_here; k_gentoks) | (k_here; k_made) | ((with_reducible refine Mine.Hi.ex_hid ?_); intro qH'Q hH'Q; (try dsimp only)))
  k_with "k_mem" => (first | assumption | exact List.Mem.head _ | (refine' List.Mem.tail _ ?_; k_mem))
  k_with "is_list" => (exact News.isList (by k_asm) (by k_mem))
  k_with "call builtin:sum" => ((k_here; k_dflt (refine' fs_call ?aK ?FK ?NK ?lK ?_; (case aK => rfl); (case FK => k_asm); (case NK => k_asm); (case lK => k_mem)); intro h'Q tk'Q t'Q F'Q N'Q; (try k_sweep)))
  revert X
  have hx : PySem.Challenge.rw_rw0037_01 = PySem.Challenge.rw_rw0037_01 := rfl
  revert hx
  k_fill
  intro hx X
  show wpAny _ (callerA.deeper (envOfC _ (Scope.mk _ _ _ _ _) _ _ _)) (exec (Stmt.Assign [Expr.Name _ _] _ _) (envOfC _ (Scope.mk _ _ _ _ _) _ _ _)) _ _ _
  (try dsimp only)
  (try k_fold)
  repeat' (first | (((fail_if_success (with_reducible show wpAny _ _ _ _ _ _)); first | (refine Mine.Hi.HidV.out (by with_reducible assumption) _ _ ?_) | (refine Mine.Hi.Hid.nxt (by with_reducible assumption) _ ?_) | (refine Mine.Hi.Hid.oth (by with_reducible assumption) _ _ (fun h => nomatch h) ?_)); (try dsimp only)) | (k_unfold; (try dsimp only)) | ((with_reducible show wpAny _ _ (PySem.evalPart _ _) _ _ _); walk1) | ((with_reducible show wpAny _ _ (PyProof.Rows.subscriptTail _ _ _ _) _ _ _); walk1) | (walk1 <;> (try ((fail_if_success (with_reducible show wpAny _ _ (PyProof.Rows.subscriptTail _ _ _ _) _ _ _)); dsimp only))) | (dsimp only; walk1 <;> (try ((fail_if_success (with_reducible show wpAny _ _ (PyProof.Rows.subscriptTail _ _ _ _) _ _ _)); dsimp only))))
  skip
  all_goals first
    | exact hret _ _ _ (by k_asm) (by k_asm)
    | skip
end
end Mine.L16
end
theorem Mine.Off.t32 : True := by
  w_top off
  first | (walk1; done) | trivial
section
open Mine.L0 Mine.Cm Mine.F1 Mine.F2 Mine.Fq
open PySem PySem.W PyProof.Rows PySem.Calls PyProof.V PySem.Spec



namespace Mine.L17
section
variable {w : World} {p : Program} {loose : List Str} {mean : ExcName → Option Value} {mg mb : Str → Option Value} {h₀ : Heap} {L fa : Addr} {cd : Value} {u : Str → Option Value} {news : List (Addr × Obj)} {s : Shared} {Q : Flow → Shared → Prop} {E : Value → Shared → Prop}

section
variable {dp un : Nat} {gd : Option (List Code)} {cn : Str} {cs : Scope} {a : Addr} {ccd : Value} {cl : List (Str × Addr)} {outer : List Env} {A₀ : Around} {base : Heap} {m : Str → Option Value} {Q : Value → Shared → Prop}
section
theorem rgb_grey {g l : UInt64} {t1 t2 t3 : Tok}
    (B : Below A₀ base outer h₀) (F : Fr h₀ L s.heap m) (X : (hd.heap_39 w.params).In h₀) (N : News h₀ L s.heap news) (T : Top p loose mean mg mb h₀) (hk : cs.kind = .function)
    (hd : dp + 1 < recursionLimit) (hu : un + 8 < cLine) (e1 : (Float64.cmp (mnF (mnF g g) g) (mxF (mxF g g) g) == some .eq) = true) (e2 : Float64.div (Float64.add (mxF (mxF g g) g) (mnF (mnF g g) g)) 4611686018427387904 = l)
    (hret : ∀ D t t' t'' h' tk', t ≠ 0 → t' ≠ 0 → t'' ≠ 0 → tk' ≠ 0 → Fr h₀ L h' m → News h₀ L h' ((D, { cls := .type "tuple", data := .seq #[.float 0 t, .float l t', .float 0 t''] }) :: news) → (∀ p ∈ news, p.1 < D) → Q (.ref D) { s with heap := h', toks := tk' }) :
    wpAny (model PySem.Challenge.rw_rw0037_01.row.prog w) (ktrTop dp un gd cn cs L a ccd cl outer) (call (.ref 21) [.float g t1, .float g t2, .float g t3]) Q E s := by
  k_with_none
  k_with "execs cons" => (first | (k_here; k_gentoks) | (k_here; k_made) | ((with_reducible refine Mine.Hi.ex_hid ?_); intro qH'Q hH'Q; (try dsimp only)))
  k_with "k_mem" => (first | assumption | exact List.Mem.head _ | (refine' List.Mem.tail _ ?_; k_mem))
  k_with "is_list" => (exact News.isList (by k_asm) (by k_mem))
  k_with "execs nil" => (refine wpAny_execs_nil ?_)
  k_with "execs cons" => (((with_reducible refine wpAny_execs_cons ?_); try dsimp only))
  k_with "ite" => ((refine ite_pos (by with_reducible assumption) ?_))
  k_with "call builtin:max" => (((with_reducible show wpAny _ _ (call _ [Value.float _ _, Value.float _ _, Value.float _ _]) _ _ _); (rename News _ _ _ _ => N'); (rename Fr _ _ _ _ => F'); refine max_three_ff rfl F' N' ?_; clear N'; intro _ _ _ _ _))
  k_with "call builtin:min" => (((with_reducible show wpAny _ _ (call _ [Value.float _ _, Value.float _ _, Value.float _ _]) _ _ _); (rename News _ _ _ _ => N'); (rename Fr _ _ _ _ => F'); refine min_three_ff rfl F' N' ?_; clear N'; intro _ _ _ _ _))
  subst e2
  revert X
  have hx : PySem.Challenge.rw_rw0037_01 = PySem.Challenge.rw_rw0037_01 := rfl
  revert hx
  k_fill
  intro hx X
  refine wpAny_call ?_
  k_dflt ktr_enter
  have hlow : True := trivial
  repeat' (first | (((fail_if_success (with_reducible show wpAny _ _ _ _ _ _)); first | (refine Mine.Hi.HidV.out (by with_reducible assumption) _ _ ?_) | (refine Mine.Hi.Hid.nxt (by with_reducible assumption) _ ?_) | (refine Mine.Hi.Hid.oth (by with_reducible assumption) _ _ (fun h => nomatch h) ?_)); (try dsimp only)) | (k_unfold; (try dsimp only)) | (k_end; wrow_close) | ((with_reducible show wpAny _ _ (PySem.evalPart _ _) _ _ _); walk1) | ((with_reducible show wpAny _ _ (PyProof.Rows.subscriptTail _ _ _ _) _ _ _); walk1) | (walk1 <;> (try ((fail_if_success (with_reducible show wpAny _ _ (PyProof.Rows.subscriptTail _ _ _ _) _ _ _)); dsimp only))) | (dsimp only; walk1 <;> (try ((fail_if_success (with_reducible show wpAny _ _ (PyProof.Rows.subscriptTail _ _ _ _) _ _ _)); dsimp only))) | (leave1; walk_say "STEP leave1"; try dsimp only) | fail "no step")
  all_goals first
    | (refine' hret _ _ _ _ _ _ ?a1 ?a2 ?a3 ?a4 ?F ?N ?l
       (case N => k_asm)
       (case F => k_asm)
       (case a1 => exact Nat.succ_ne_zero _)
       (case a2 => exact Nat.succ_ne_zero _)
       (case a3 => exact Nat.succ_ne_zero _)
       (case a4 => exact Nat.succ_ne_zero _)
       (case l => assumption))
    | skip
theorem hls_grey {h l : UInt64} {t1 t2 t3 : Tok}
    (B : Below A₀ base outer h₀) (F : Fr h₀ L s.heap m) (X : (hd.heap_39 w.params).In h₀) (N : News h₀ L s.heap news) (T : Top p loose mean mg mb h₀) (hk : cs.kind = .function)
    (hd : dp + 3 < recursionLimit) (hu : un + 24 < cLine) (e1 : (Float64.cmp 0 0 == some .eq) = true) (nz : t2 ≠ 0)
    (hret : ∀ D t h' tk', t ≠ 0 → tk' ≠ 0 → Fr h₀ L h' m → News h₀ L h' ((D, { cls := .type "tuple", data := .seq #[.float l t, .float l t, .float l t] }) :: news) → (∀ p ∈ news, p.1 < D) → Q (.ref D) { s with heap := h', toks := tk' }) :
    wpAny (model PySem.Challenge.rw_rw0037_01.row.prog w) (ktrTop dp un gd cn cs L a ccd cl outer) (call (.ref 28) [.float h t1, .float l t2, .float 0 t3]) Q E s := by
  k_with_none
  k_with "execs cons" => (first | (k_here; k_gentoks) | (k_here; k_made) | ((with_reducible refine Mine.Hi.ex_hid ?_); intro qH'Q hH'Q; (try dsimp only)))
  k_with "k_mem" => (first | assumption | exact List.Mem.head _ | (refine' List.Mem.tail _ ?_; k_mem))
  k_with "is_list" => (exact News.isList (by k_asm) (by k_mem))
  k_with "execs nil" => (refine wpAny_execs_nil ?_)
  k_with "execs cons" => (((with_reducible refine wpAny_execs_cons ?_); try dsimp only))
  k_with "ite" => ((refine ite_pos (by with_reducible assumption) ?_))
  k_with "call builtin:max" => (((with_reducible show wpAny _ _ (call _ [Value.float _ _, Value.float _ _, Value.float _ _]) _ _ _); (rename News _ _ _ _ => N'); (rename Fr _ _ _ _ => F'); refine max_three_ff rfl F' N' ?_; clear N'; intro _ _ _ _ _))
  k_with "call builtin:min" => (((with_reducible show wpAny _ _ (call _ [Value.float _ _, Value.float _ _, Value.float _ _]) _ _ _); (rename News _ _ _ _ => N'); (rename Fr _ _ _ _ => F'); refine min_three_ff rfl F' N' ?_; clear N'; intro _ _ _ _ _))
  revert X
  have hx : PySem.Challenge.rw_rw0037_01 = PySem.Challenge.rw_rw0037_01 := rfl
  revert hx
  k_fill
  intro hx X
  refine wpAny_call ?_
  k_dflt ktr_enter
  have hlow : True := trivial
  repeat' (first | (((fail_if_success (with_reducible show wpAny _ _ _ _ _ _)); first | (refine Mine.Hi.HidV.out (by with_reducible assumption) _ _ ?_) | (refine Mine.Hi.Hid.nxt (by with_reducible assumption) _ ?_) | (refine Mine.Hi.Hid.oth (by with_reducible assumption) _ _ (fun h => nomatch h) ?_)); (try dsimp only)) | (k_unfold; (try dsimp only)) | (k_end; wrow_close) | ((with_reducible show wpAny _ _ (PySem.evalPart _ _) _ _ _); walk1) | ((with_reducible show wpAny _ _ (PyProof.Rows.subscriptTail _ _ _ _) _ _ _); walk1) | (walk1 <;> (try ((fail_if_success (with_reducible show wpAny _ _ (PyProof.Rows.subscriptTail _ _ _ _) _ _ _)); dsimp only))) | (dsimp only; walk1 <;> (try ((fail_if_success (with_reducible show wpAny _ _ (PyProof.Rows.subscriptTail _ _ _ _) _ _ _)); dsimp only))) | (leave1; walk_say "STEP leave1"; try dsimp only) | fail "no step")
  all_goals first
    | (refine' hret _ _ _ _ ?a1 ?a4 ?F ?N ?l
       (case N => k_asm)
       (case F => k_asm)
       (case a1 => exact nz)
       (case a4 => exact Nat.succ_ne_zero _)
       (case l => assumption))
    | skip
end
end
theorem law_17 {g : UInt64} {tg : Tok}
    (X : (hd.heap_39 w.params).In h₀) (N : News h₀ L s.heap news) (T : Top p loose mean mg mb h₀) (F : Fr h₀ L s.heap (fun q => if q = Str.ofString "grey" then some (.float g tg) else u q)) (B : Below callerA h₀ [] h₀)
    (e1 : (Float64.cmp (mnF (mnF g g) g) (mxF (mxF g g) g) == some .eq) = true) (e2 : Float64.div (Float64.add (mxF (mxF g g) g) (mnF (mnF g g) g)) 4611686018427387904 = 4603804719079489536) (z0 : (Float64.cmp 0 0 == some .eq) = true) (z1 : (Float64.cmp 4603804719079489536 4603804719079489536 == some .eq) = true)
    (hret : ∀ h' tk', Fr h₀ L h' (fun q => if q = Str.ofString "grey" then some (.float g tg) else u q) → News h₀ L h' news → Q .next { s with heap := h', toks := tk' }) :
    wpAny (model PySem.Challenge.rw_rw0037_01.row.prog w) (lawA L fa cd) (exec (lawSt 17) (envOfC (Str.ofString "law") lawSc L fa cd)) Q E s := by
  k_with_none
  k_with "execs cons" => (first | (k_here; k_gentoks) | (k_here; k_made) | ((with_reducible refine Mine.Hi.ex_hid ?_); intro qH'Q hH'Q; (try dsimp only)))
  k_with "k_mem" => (first | assumption | exact List.Mem.head _ | (refine' List.Mem.tail _ ?_; k_mem))
  k_with "is_list" => (exact News.isList (by k_asm) (by k_mem))
  k_with "execs nil" => (refine wpAny_execs_nil ?_)
  k_with "execs cons" => (((with_reducible refine wpAny_execs_cons ?_); try dsimp only))
  k_with "call ref" => (((with_reducible show wpAny _ _ (call (Value.ref 21) _) _ _ _); k_dflt (refine' rgb_grey ?zBK ?zFK ?zXK ?zNK ?zTK ?zkK ?zdK ?zuK ?z1K ?z2K ?_; (case zBK => k_asm); (case zFK => k_asm); (case zXK => k_asm); (case zNK => k_asm); (case zTK => k_asm); (case zkK => first | exact rfl | assumption); (case zdK => ktr_room); (case zuK => ktr_units); (case z1K => with_reducible assumption); (case z2K => with_reducible assumption); k_whole); intro D'Q t'Q t1'Q t2'Q h'Q tk'Q n1'Q n2'Q n3'Q n4'Q F'Q N'Q l1Q; (try k_sweep); (try dsimp only); (try k_fold)))
  k_with "call ref" => (((with_reducible show wpAny _ _ (call (Value.ref 28) _) _ _ _); k_dflt (refine' hls_grey ?zBK ?zFK ?zXK ?zNK ?zTK ?zkK ?zdK ?zuK ?z1K ?z2K ?_; (case zBK => k_asm); (case zFK => k_asm); (case zXK => k_asm); (case zNK => k_asm); (case zTK => k_asm); (case zkK => first | exact rfl | assumption); (case zdK => ktr_room); (case zuK => ktr_units); (case z1K => with_reducible assumption); (case z2K => first | with_reducible assumption | exact Nat.succ_ne_zero _); k_whole); intro D'Q t'Q h'Q tk'Q n1'Q n4'Q F'Q N'Q l1Q; (try k_sweep); (try dsimp only); (try k_fold)))
  k_with "compareOp NotEq ref ref" => ((k_here; k_dflt (refine' ne_f3 ?NK ?maK ?mbK ?huK ?hbK ?t1K ?t2K ?t3K ?u1K ?u2K ?u3K ?hxK ?hyK ?hzK ?_; (case NK => k_asm); (case maK => k_mem); (case mbK => k_mem); (case huK => ktr_units); (case hbK => exact none_booked' (by with_reducible assumption) (Fr.keep (by with_reducible assumption))); (case t1K => first | with_reducible assumption | exact Nat.succ_ne_zero _); (case t2K => first | with_reducible assumption | exact Nat.succ_ne_zero _); (case t3K => first | with_reducible assumption | exact Nat.succ_ne_zero _); (case u1K => first | with_reducible assumption | exact Nat.succ_ne_zero _); (case u2K => first | with_reducible assumption | exact Nat.succ_ne_zero _); (case u3K => first | with_reducible assumption | exact Nat.succ_ne_zero _); (case hxK => with_reducible assumption); (case hyK => with_reducible assumption); (case hzK => with_reducible assumption))))
  revert X
  have hx : PySem.Challenge.rw_rw0037_01 = PySem.Challenge.rw_rw0037_01 := rfl
  revert hx
  k_fill
  intro hx X
  show wpAny _ (callerA.deeper (envOfC _ (Scope.mk _ _ _ _ _) _ _ _)) (exec (Stmt.If _ _ _ _) (envOfC _ (Scope.mk _ _ _ _ _) _ _ _)) _ _ _
  (try dsimp only)
  (try k_fold)
  repeat' (first | (((fail_if_success (with_reducible show wpAny _ _ _ _ _ _)); first | (refine Mine.Hi.HidV.out (by with_reducible assumption) _ _ ?_) | (refine Mine.Hi.Hid.nxt (by with_reducible assumption) _ ?_) | (refine Mine.Hi.Hid.oth (by with_reducible assumption) _ _ (fun h => nomatch h) ?_)); (try dsimp only)) | (k_unfold; (try dsimp only)) | ((with_reducible show wpAny _ _ (PySem.evalPart _ _) _ _ _); walk1) | ((with_reducible show wpAny _ _ (PyProof.Rows.subscriptTail _ _ _ _) _ _ _); walk1) | (walk1 <;> (try ((fail_if_success (with_reducible show wpAny _ _ (PyProof.Rows.subscriptTail _ _ _ _) _ _ _)); dsimp only))) | (dsimp only; walk1 <;> (try ((fail_if_success (with_reducible show wpAny _ _ (PyProof.Rows.subscriptTail _ _ _ _) _ _ _)); dsimp only))))
  exact hret _ _ (by k_asm) (fun p hp => (by assumption : News _ _ _ (_ :: _ :: _ :: _ :: news)) p (.tail _ (.tail _ (.tail _ (.tail _ hp)))))
end
end Mine.L17
end
theorem Mine.Off.t33 : True := by
  w_top off
  first | (walk1; done) | trivial
section
open Mine.L0 Mine.Cm Mine.F3 Mine.F5 Mine.F4 Mine.Fc Mine.F6
open PySem PySem.W PyProof.Rows PySem.Calls PyProof.V PySem.Spec



namespace Mine.L4
section
variable {w : World} {p : Program} {loose : List Str} {mean : ExcName → Option Value} {mg mb : Str → Option Value} {h₀ : Heap} {L fa : Addr} {cd : Value} {u : Str → Option Value} {news : List (Addr × Obj)} {s : Shared} {Q : Flow → Shared → Prop} {E : Value → Shared → Prop}

section
variable {dp un : Nat} {gd : Option (List Code)} {cn : Str} {cs : Scope} {a : Addr} {ccd : Value} {cl : List (Str × Addr)} {outer : List Env} {A₀ : Around} {base : Heap} {m : Str → Option Value} {Q : Value → Shared → Prop}
theorem strs3 {vs : List Value} {ws : List Str} {a b c : Str} (h : StrsAre vs ws) (e : ws = [a, b, c]) : ∃ ta tb tc, vs = [.str a ta, .str b tb, .str c tc] := by
  subst e
  cases h with
  | cons _ ta h => cases h with
    | cons _ tb h => cases h with
      | cons _ tc h => cases h; exact ⟨ta, tb, tc, rfl⟩
theorem ints4 {vs : List Value} {ns : List Int} {a b c d : Int} (h : IntsAre vs ns) (e : ns = [a, b, c, d]) : ∃ ta tb tc td, vs = [.int a ta, .int b tb, .int c tc, .int d td] := by
  subst e
  cases h with
  | cons _ ta h => cases h with
    | cons _ tb h => cases h with
      | cons _ tc h => cases h with
        | cons _ td h => cases h; exact ⟨ta, tb, tc, td, rfl⟩
noncomputable def PgPre (d0 d1 d2 d3 : Int) (m0 m1 m2 m3 p0 p1 p2 : Str) : Prop := pgOk pg0 d0 m0 ∧ pgOk (pgStep pg0 d0 m0) d1 m1 ∧ pgOk (pgStep (pgStep pg0 d0 m0) d1 m1) d2 m2 ∧ pgOk (pgStep (pgStep (pgStep pg0 d0 m0) d1 m1) d2 m2) d3 m3 ∧ pgStep (pgStep (pgStep (pgStep pg0 d0 m0) d1 m1) d2 m2) d3 m3 = [p0, p1, p2]
noncomputable def RdPre (d0 d1 d2 d3 : Int) (m0 m1 m2 m3 p0 p1 p2 : Str) : Prop := (mkOk m0 ∧ mkOk m1 ∧ mkOk m2 ∧ mkOk m3) ∧ (p0.length ≤ 1000 ∧ p1.length ≤ 1000 ∧ p2.length ≤ 1000) ∧ readF m0 m1 m2 m3 p0 p1 p2 = [d0, d1, d2, d3]
theorem pages_at {d0 d1 d2 d3 : Int} {m0 m1 m2 m3 p0 p1 p2 : Str} {ld lm : Addr} {u0 u1 u2 u3 v0 v1 v2 v3 : Tok} {k1 k2 : Nat}
    (B : Below A₀ base outer h₀) (F : Fr h₀ L s.heap m) (X : (hd.heap_39 w.params).In h₀) (N : News h₀ L s.heap news) (T : Top p loose mean mg mb h₀) (hk : cs.kind = .function)
    (hd : dp + 3 < recursionLimit) (hu : un + 24 < cLine) (hl : (ld, listOf #[.int d0 u0, .int d1 u1, .int d2 u2, .int d3 u3] k1) ∈ news) (hl2 : (lm, listOf #[.str m0 v0, .str m1 v1, .str m2 v2, .str m3 v3] k2) ∈ news)
    (h00 : 0 ≤ d0) (h01 : d0 ≤ 2) (h10 : 0 ≤ d1) (h11 : d1 ≤ 2) (h20 : 0 ≤ d2) (h21 : d2 ≤ 2) (h30 : 0 ≤ d3) (h31 : d3 ≤ 2) (e : PgPre d0 d1 d2 d3 m0 m1 m2 m3 p0 p1 p2)
    (hret : ∀ D t0 t1 t2 k h' tk', Fr h₀ L h' m → News h₀ L h' ((D, listOf #[.str p0 t0, .str p1 t1, .str p2 t2] k) :: news) → (∀ p ∈ news, p.1 < D) → Q (.ref D) { s with heap := h', toks := tk' }) :
    wpAny (model PySem.Challenge.rw_rw0037_01.row.prog w) (ktrTop dp un gd cn cs L a ccd cl outer) (call (.ref 70) [.ref ld, .ref lm]) Q E s := by
  obtain ⟨o0, o1, o2, o3, e⟩ := e
  refine pages_call B F X N T hk hd hu hl hl2 h00 h01 h10 h11 h20 h21 h30 h31 o0 o1 o2 o3 fun D vs k h' tk' F' N' hi l' => ?_
  obtain ⟨t0, t1, t2, rfl⟩ := strs3 hi e
  exact hret D t0 t1 t2 k h' tk' F' N' l'
theorem read_at {d0 d1 d2 d3 : Int} {p0 p1 p2 m0 m1 m2 m3 : Str} {lp lm : Addr} {u0 u1 u2 v0 v1 v2 v3 : Tok} {k1 k2 : Nat}
    (B : Below A₀ base outer h₀) (F : Fr h₀ L s.heap m) (X : (hd.heap_39 w.params).In h₀) (N : News h₀ L s.heap news) (T : Top p loose mean mg mb h₀) (hk : cs.kind = .function)
    (hd : dp + 3 < recursionLimit) (hu : un + 24 < cLine) (hl : (lp, listOf #[.str p0 u0, .str p1 u1, .str p2 u2] k1) ∈ news) (hl2 : (lm, listOf #[.str m0 v0, .str m1 v1, .str m2 v2, .str m3 v3] k2) ∈ news)
    (e : RdPre d0 d1 d2 d3 m0 m1 m2 m3 p0 p1 p2)
    (hret : ∀ D t0 t1 t2 t3 k h' tk', Fr h₀ L h' m → News h₀ L h' ((D, listOf #[.int d0 t0, .int d1 t1, .int d2 t2, .int d3 t3] k) :: news) → (∀ p ∈ news, p.1 < D) → Q (.ref D) { s with heap := h', toks := tk' }) :
    wpAny (model PySem.Challenge.rw_rw0037_01.row.prog w) (ktrTop dp un gd cn cs L a ccd cl outer) (call (.ref 84) [.ref lp, .ref lm]) Q E s := by
  obtain ⟨⟨o0, o1, o2, o3⟩, ⟨q0, q1, q2⟩, e⟩ := e
  refine read_call B F X N T hk hd hu hl hl2 o0 o1 o2 o3 q0 q1 q2 fun D vs k h' tk' F' N' hi l' => ?_
  obtain ⟨t0, t1, t2, t3, rfl⟩ := ints4 hi e
  exact hret D t0 t1 t2 t3 k h' tk' F' N' l'
end
theorem news_312 {h : Heap} {a b c : Addr × Obj} (N : News h₀ L h (a :: b :: c :: news)) : News h₀ L h (c :: a :: news) := fun p hp => by
  rcases List.mem_cons.mp hp with rfl | hp
  · exact N _ (.tail _ (.tail _ (.head _)))
  rcases List.mem_cons.mp hp with rfl | hp
  · exact N _ (.head _)
  exact N _ (.tail _ (.tail _ (.tail _ hp)))
theorem allLt_to {d : Addr} : ∀ (l : List (Addr × Obj)), AllLt d l → ∀ p ∈ l, p.1 < d := by
  intro l
  induction l with
  | nil => intro _ p hp; cases hp
  | cons a r ih =>
    intro h p hp
    rcases List.mem_cons.mp hp with rfl | hp
    · exact h.1
    · exact ih h.2 p hp
theorem law_4 {d0 d1 d2 d3 : Int} {m0 m1 m2 m3 p0 p1 p2 : Str} {ld lm : Addr} {u0 u1 u2 u3 v0 v1 v2 v3 : Tok} {k1 k2 : Nat} {op : Obj} {z : Option Value}
    (X : (hd.heap_39 w.params).In h₀) (N : News h₀ L s.heap ((L + 1 + 1 + 1 + 1, op) :: news)) (T : Top p loose mean mg mb h₀) (F : Fr h₀ L s.heap (fun y => if y = Str.ofString "drawn" then some (.ref ld) else if y = Str.ofString "marks" then some (.ref lm) else u y)) (B : Below callerA h₀ [] h₀)
    (hm : ∀ p ∈ news, p.1 ≠ L + 1 + 1 + 1 + 1) (do_ : op.data = Data.cell z)
    (hl : (ld, listOf #[.int d0 u0, .int d1 u1, .int d2 u2, .int d3 u3] k1) ∈ news) (hl2 : (lm, listOf #[.str m0 v0, .str m1 v1, .str m2 v2, .str m3 v3] k2) ∈ news)
    (h00 : 0 ≤ d0) (h01 : d0 ≤ 2) (h10 : 0 ≤ d1) (h11 : d1 ≤ 2) (h20 : 0 ≤ d2) (h21 : d2 ≤ 2) (h30 : 0 ≤ d3) (h31 : d3 ≤ 2) (e1 : PgPre d0 d1 d2 d3 m0 m1 m2 m3 p0 p1 p2) (e2 : RdPre d0 d1 d2 d3 m0 m1 m2 m3 p0 p1 p2)
    (hret : ∀ h' tk' D oP t0 t1 t2 t3 k, Fr h₀ L h' (fun y => if y = Str.ofString "drawn" then some (.ref ld) else if y = Str.ofString "marks" then some (.ref lm) else u y) → News h₀ L h' ((L + 1 + 1 + 1 + 1, oP) :: (D, listOf #[.int d0 t0, .int d1 t1, .int d2 t2, .int d3 t3] k) :: news) → oP.data = Data.cell (some (.ref D)) → (∀ p ∈ news, p.1 < D) → @LT.lt Nat _ (L + 1 + 1 + 1 + 1) D → Q .next { s with heap := h', toks := tk' }) :
    wpAny (model PySem.Challenge.rw_rw0037_01.row.prog w) (lawA L fa cd) (exec (lawSt 4) (envOfC (Str.ofString "law") lawSc L fa cd)) Q E s := by
  k_with_none
  k_with "execs cons" => (first | (k_here; k_gentoks) | (k_here; k_made) | ((with_reducible refine Mine.Hi.ex_hid ?_); intro qH'Q hH'Q; (try dsimp only)))
  k_with "k_mem" => (first | assumption | exact List.Mem.head _ | (refine' List.Mem.tail _ ?_; k_mem))
  k_with "is_list" => (exact News.isList (by k_asm) (by k_mem))
  k_with "k_all" => (first | assumption | (refine List.forall_mem_cons.mpr ⟨by k_ne, ?_⟩; k_all))
  k_with "call ref" => (((with_reducible show wpAny _ _ (call (Value.ref 70) _) _ _ _); k_dflt (refine' pages_at ?zBK ?zFK ?zXK ?zNK ?zTK ?zkK ?zdK ?zuK ?z1K ?z2K ?a0K ?a1K ?a2K ?a3K ?a4K ?a5K ?a6K ?a7K ?z3K ?_; (case zBK => k_asm); (case zFK => k_asm); (case zXK => k_asm); (case zNK => k_asm); (case zTK => k_asm); (case zkK => first | exact rfl | assumption); (case zdK => ktr_room); (case zuK => ktr_units); (case z1K => k_mem); (case z2K => k_mem); (case a0K => assumption); (case a1K => assumption); (case a2K => assumption); (case a3K => assumption); (case a4K => assumption); (case a5K => assumption); (case a6K => assumption); (case a7K => assumption); (case z3K => with_reducible assumption); k_whole); intro D'Q t'Q t1'Q t2'Q k'Q h'Q tk'Q F'Q N'Q l1Q; (try k_lt l1Q); (try k_sweep); (try dsimp only); (try k_fold)))
  k_with "call ref" => (((with_reducible show wpAny _ _ (call (Value.ref 84) _) _ _ _); k_dflt (refine' read_at ?zBK ?zFK ?zXK ?zNK ?zTK ?zkK ?zdK ?zuK ?z1K ?z2K ?z3K ?_; (case zBK => k_asm); (case zFK => k_asm); (case zXK => k_asm); (case zNK => k_asm); (case zTK => k_asm); (case zkK => first | exact rfl | assumption); (case zdK => ktr_room); (case zuK => ktr_units); (case z1K => k_mem); (case z2K => k_mem); (case z3K => with_reducible assumption); k_whole); intro D'Q t'Q t1'Q t2'Q t3'Q k'Q h'Q tk'Q F'Q N'Q l1Q; (try k_lt l1Q); (try k_sweep); (try dsimp only); (try k_fold)))
  revert X
  have hx : PySem.Challenge.rw_rw0037_01 = PySem.Challenge.rw_rw0037_01 := rfl
  revert hx
  k_fill
  intro hx X
  show wpAny _ (callerA.deeper (envOfC _ (Scope.mk _ _ _ _ _) _ _ _)) (exec (Stmt.Assign [Expr.Name _ _] _ _) (envOfC _ (Scope.mk _ _ _ _ _) _ _ _)) _ _ _
  (try dsimp only)
  (try k_fold)
  repeat' (first | (((fail_if_success (with_reducible show wpAny _ _ _ _ _ _)); first | (refine Mine.Hi.HidV.out (by with_reducible assumption) _ _ ?_) | (refine Mine.Hi.Hid.nxt (by with_reducible assumption) _ ?_) | (refine Mine.Hi.Hid.oth (by with_reducible assumption) _ _ (fun h => nomatch h) ?_)); (try dsimp only)) | (k_unfold; (try dsimp only)) | ((with_reducible show wpAny _ _ (PySem.evalPart _ _) _ _ _); walk1) | ((with_reducible show wpAny _ _ (PyProof.Rows.subscriptTail _ _ _ _) _ _ _); walk1) | (walk1 <;> (try ((fail_if_success (with_reducible show wpAny _ _ (PyProof.Rows.subscriptTail _ _ _ _) _ _ _)); dsimp only))) | (dsimp only; walk1 <;> (try ((fail_if_success (with_reducible show wpAny _ _ (PyProof.Rows.subscriptTail _ _ _ _) _ _ _)); dsimp only))))
  refine' hret _ _ _ _ _ _ _ _ _ ?F ?N ?d ?l1 ?l2
  case F => k_asm
  case N => exact news_312 (by k_asm)
  case d => assumption
  all_goals (with_reducible rename _ ∧ _ ∧ AllLt _ news => q9)
  · exact allLt_to _ q9.2.2
  · exact q9.2.1
end
end Mine.L4
end
theorem Mine.Off.t34 : True := by
  w_top off
  first | (walk1; done) | trivial
section
open Mine.L0 Mine.Cm Mine.Nst Mine.D2i
open PySem PySem.W PyProof.Rows PySem.Calls PyProof.V PySem.Spec



namespace Mine.L6
section
variable {w : World} {p : Program} {loose : List Str} {mean : ExcName → Option Value} {mg mb : Str → Option Value} {h₀ : Heap} {L fa : Addr} {cd : Value} {u : Str → Option Value} {news : List (Addr × Obj)} {s : Shared} {Q : Flow → Shared → Prop} {E : Value → Shared → Prop}

theorem law_6 {W d0 d1 d2 d3 : Int} {tW u0 u1 u2 u3 : Tok} {ow op : Obj} {lp : Addr} {k : Nat}
    (X : (hd.heap_39 w.params).In h₀) (N : News h₀ L s.heap ((44, tabObj #[]) :: news)) (T : Top p loose mean mg mb h₀) (F : Fr h₀ L s.heap u) (B : Below callerA h₀ [] h₀) (hm : ∀ p ∈ news, p.1 ≠ 44)
    (mw : (L + 1 + 1 + 1, ow) ∈ news) (mp : (L + 1 + 1 + 1 + 1, op) ∈ news) (ml : (lp, listOf #[.int d0 u0, .int d1 u1, .int d2 u2, .int d3 u3] k) ∈ news) (dw : ow.data = Data.cell (some (.int W tW))) (dp : op.data = Data.cell (some (.ref lp)))
    (h1 : 2 ≤ W) (h2 : W ≤ 5) (h00 : 0 ≤ d0) (h01 : d0 ≤ 2) (h10 : 0 ≤ d1) (h11 : d1 ≤ 2) (h20 : 0 ≤ d2) (h21 : d2 ≤ 2) (h30 : 0 ≤ d3) (h31 : d3 ≤ 2)
    (hret : ∀ h' tk' t c' (oc' : Obj) vs' (t' : Tok), Fr h₀ L h' (fun y => if y = Str.ofString "tower" then some (.int (d2iF W d0 d1 d2 d3) t) else u y) → News h₀ L h' ((c', oc') :: (44, tabObj #[rawInt 65, rawInt 4, Value.ref c']) :: news) → oc'.data = Data.fields vs' → vs'[1]? = some (Value.str (Str.ofString "_digits2int.<locals>.inner") t') → (∀ p ∈ news, p.1 < c') → 44 < c' → Q .next { s with heap := h', toks := tk' }) :
    wpAny (model PySem.Challenge.rw_rw0037_01.row.prog w) (lawA L fa cd) (exec (lawSt 6) (envOfC (Str.ofString "law") lawSc L fa cd)) Q E s := by
  k_with_none
  k_with "execs cons" => (first | (k_here; k_gentoks) | (k_here; k_made) | ((with_reducible refine Mine.Hi.ex_hid ?_); intro qH'Q hH'Q; (try dsimp only)))
  k_with "k_mem" => (first | assumption | exact List.Mem.head _ | (refine' List.Mem.tail _ ?_; k_mem))
  k_with "is_list" => (exact News.isList (by k_asm) (by k_mem))
  k_with "k_all" => (first | assumption | (refine List.forall_mem_cons.mpr ⟨by k_ne, ?_⟩; k_all))
  k_with "call ref" => (((with_reducible show wpAny _ _ (call (Value.ref 49) _) _ _ _); k_dflt (refine' d2i_call ?zBK ?zFK ?zXK ?zNK ?zTK ?zkK ?zdK ?zuK ?z1K ?z2K ?a0K ?a1K ?a2K ?a3K ?a4K ?a5K ?a6K ?a7K ?z3K ?z4K ?_; (case zBK => k_asm); (case zFK => k_asm); (case zXK => k_asm); (case zNK => k_asm); (case zTK => k_asm); (case zkK => first | exact rfl | assumption); (case zdK => ktr_room); (case zuK => ktr_units); (case z1K => omega); (case z2K => omega); (case z4K => assumption); (case a0K => assumption); (case a1K => assumption); (case a2K => assumption); (case a3K => assumption); (case a4K => assumption); (case a5K => assumption); (case a6K => assumption); (case a7K => assumption); (case z3K => assumption); k_whole); intro t'Q h'Q tk'Q c'Q oc'Q vs'Q t1'Q F'Q N'Q dd1Q dd2Q l1Q l2Q; (try k_sweep); (try dsimp only); (try k_fold)))
  revert X
  have hx : PySem.Challenge.rw_rw0037_01 = PySem.Challenge.rw_rw0037_01 := rfl
  revert hx
  k_fill
  intro hx X
  show wpAny _ (callerA.deeper (envOfC _ (Scope.mk _ _ _ _ _) _ _ _)) (exec (Stmt.Assign [Expr.Name _ _] _ _) (envOfC _ (Scope.mk _ _ _ _ _) _ _ _)) _ _ _
  (try dsimp only)
  (try k_fold)
  repeat' (first | (((fail_if_success (with_reducible show wpAny _ _ _ _ _ _)); first | (refine Mine.Hi.HidV.out (by with_reducible assumption) _ _ ?_) | (refine Mine.Hi.Hid.nxt (by with_reducible assumption) _ ?_) | (refine Mine.Hi.Hid.oth (by with_reducible assumption) _ _ (fun h => nomatch h) ?_)); (try dsimp only)) | (k_unfold; (try dsimp only)) | ((with_reducible show wpAny _ _ (PySem.evalPart _ _) _ _ _); walk1) | ((with_reducible show wpAny _ _ (PyProof.Rows.subscriptTail _ _ _ _) _ _ _); walk1) | (walk1 <;> (try ((fail_if_success (with_reducible show wpAny _ _ (PyProof.Rows.subscriptTail _ _ _ _) _ _ _)); dsimp only))) | (dsimp only; walk1 <;> (try ((fail_if_success (with_reducible show wpAny _ _ (PyProof.Rows.subscriptTail _ _ _ _) _ _ _)); dsimp only))))
  exact hret _ _ _ _ _ _ _ (by k_asm) (by k_asm) (by assumption) (by assumption) (by assumption) (by assumption)
end
end Mine.L6
end
theorem Mine.Off.t35 : True := by
  w_top off
  first | (walk1; done) | trivial
section
open Mine.L0 Mine.Cm Mine.Nst Mine.I2d Mine.I2w
open PySem PySem.W PyProof.Rows PySem.Calls PyProof.V PySem.Spec



namespace Mine.L8
section
variable {w : World} {p : Program} {loose : List Str} {mean : ExcName → Option Value} {mg mb : Str → Option Value} {h₀ : Heap} {L fa : Addr} {cd : Value} {u : Str → Option Value} {news : List (Addr × Obj)} {s : Shared} {Q : Flow → Shared → Prop} {E : Value → Shared → Prop}

theorem law_8 {W tw : Int} {tW tt : Tok} {ow : Obj}
    (X : (hd.heap_39 w.params).In h₀) (N : News h₀ L s.heap ((37, tabObj #[]) :: news)) (T : Top p loose mean mg mb h₀) (F : Fr h₀ L s.heap (fun y => if y = Str.ofString "tower" then some (.int tw tt) else u y)) (B : Below callerA h₀ [] h₀) (hm : ∀ p ∈ news, p.1 ≠ 37)
    (mw : (L + 1 + 1 + 1, ow) ∈ news) (dw : ow.data = Data.cell (some (.int W tW))) (ok : i2dOk W tw)
    (hret : ∀ h' tk' D vs k c' (oc' : Obj) vs' (t' : Tok), Fr h₀ L h' (fun y => if y = Str.ofString "digits" then some (.ref D) else if y = Str.ofString "tower" then some (.int tw tt) else u y) → News h₀ L h' ((D, listOf (List.toArray vs) k) :: (c', oc') :: (37, tabI c') :: news) → IntsAre vs (i2dR W tw) → oc'.data = Data.fields vs' → vs'[1]? = some (Value.str QI t') → (∀ p ∈ news, p.1 < D) → (∀ p ∈ news, p.1 < c') → 37 < D → D < c' → Q .next { s with heap := h', toks := tk' }) :
    wpAny (model PySem.Challenge.rw_rw0037_01.row.prog w) (lawA L fa cd) (exec (lawSt 8) (envOfC (Str.ofString "law") lawSc L fa cd)) Q E s := by
  k_with_none
  k_with "execs cons" => (first | (k_here; k_gentoks) | (k_here; k_made) | ((with_reducible refine Mine.Hi.ex_hid ?_); intro qH'Q hH'Q; (try dsimp only)))
  k_with "k_mem" => (first | assumption | exact List.Mem.head _ | (refine' List.Mem.tail _ ?_; k_mem))
  k_with "is_list" => (exact News.isList (by k_asm) (by k_mem))
  k_with "k_all" => (first | assumption | (refine List.forall_mem_cons.mpr ⟨by k_ne, ?_⟩; k_all))
  k_with "call ref" => (((with_reducible show wpAny _ _ (call (Value.ref 42) _) _ _ _); k_dflt (refine' i2d_all (ps := #[]) ?zBK ?zFK ?zXK ?zNK ?zTK ?zkK ?zdK ?zuK ?z1K ?z2K ?z3K ?_; (case zBK => k_asm); (case zFK => k_asm); (case zXK => k_asm); (case zNK => k_asm); (case zTK => k_asm); (case zkK => first | exact rfl | assumption); (case zdK => ktr_room); (case zuK => ktr_units); (case z1K => exact .inl rfl); (case z2K => with_reducible assumption); (case z3K => assumption); k_whole); intro D'Q vs1'Q k'Q h'Q tk'Q c'Q oc'Q vs'Q t1'Q F'Q N'Q hi'Q dd1Q dd2Q l1Q l2Q l3Q; (try k_sweep); (try dsimp only); (try k_fold)))
  revert X
  have hx : PySem.Challenge.rw_rw0037_01 = PySem.Challenge.rw_rw0037_01 := rfl
  revert hx
  k_fill
  intro hx X
  show wpAny _ (callerA.deeper (envOfC _ (Scope.mk _ _ _ _ _) _ _ _)) (exec (Stmt.Assign [Expr.Name _ _] _ _) (envOfC _ (Scope.mk _ _ _ _ _) _ _ _)) _ _ _
  (try dsimp only)
  (try k_fold)
  repeat' (first | (((fail_if_success (with_reducible show wpAny _ _ _ _ _ _)); first | (refine Mine.Hi.HidV.out (by with_reducible assumption) _ _ ?_) | (refine Mine.Hi.Hid.nxt (by with_reducible assumption) _ ?_) | (refine Mine.Hi.Hid.oth (by with_reducible assumption) _ _ (fun h => nomatch h) ?_)); (try dsimp only)) | (k_unfold; (try dsimp only)) | ((with_reducible show wpAny _ _ (PySem.evalPart _ _) _ _ _); walk1) | ((with_reducible show wpAny _ _ (PyProof.Rows.subscriptTail _ _ _ _) _ _ _); walk1) | (walk1 <;> (try ((fail_if_success (with_reducible show wpAny _ _ (PyProof.Rows.subscriptTail _ _ _ _) _ _ _)); dsimp only))) | (dsimp only; walk1 <;> (try ((fail_if_success (with_reducible show wpAny _ _ (PyProof.Rows.subscriptTail _ _ _ _) _ _ _)); dsimp only))))
  rename _ ∨ _ => l3
  rcases l3 with ⟨_, l3, l4⟩ | ⟨e, _⟩
  · exact hret _ _ _ _ _ _ _ _ _ (by k_asm) (by k_asm) (by assumption) (by assumption) (by assumption) (by assumption) l3 (by assumption) l4
  · cases e
end
end Mine.L8
end
theorem Mine.Off.t36 : True := by
  w_top off
  first | (walk1; done) | trivial
section
open Mine.L0 Mine.Cm Mine.Ways0 Mine.Fc Mine.F7
open PySem PySem.W PyProof.Rows PySem.Calls PyProof.V PySem.Spec



namespace Mine.L10
section
variable {w : World} {p : Program} {loose : List Str} {mean : ExcName → Option Value} {mg mb : Str → Option Value} {h₀ : Heap} {L fa : Addr} {cd : Value} {u : Str → Option Value} {news : List (Addr × Obj)} {s : Shared} {Q : Flow → Shared → Prop} {E : Value → Shared → Prop}

theorem news_21 {h : Heap} {a b : Addr × Obj} (N : News h₀ L h (a :: b :: news)) : News h₀ L h (b :: a :: news) := fun p hp => by
  rcases List.mem_cons.mp hp with rfl | hp
  · exact N _ (.tail _ (.head _))
  rcases List.mem_cons.mp hp with rfl | hp
  · exact N _ (.head _)
  exact N _ (.tail _ (.tail _ hp))
theorem allLt_to {d : Addr} : ∀ (l : List (Addr × Obj)), AllLt d l → ∀ p ∈ l, p.1 < d := by
  intro l
  induction l with
  | nil => intro _ p hp; cases hp
  | cons a r ih =>
    intro h p hp
    rcases List.mem_cons.mp hp with rfl | hp
    · exact h.1
    · exact ih h.2 p hp
theorem law_10 {W tw : Int} {tW tt : Tok} {ow oy : Obj} {z : Option Value}
    (X : (hd.heap_39 w.params).In h₀) (N : News h₀ L s.heap ((L + 1 + 1 + 1 + 1 + 1, oy) :: news)) (T : Top p loose mean mg mb h₀) (F : Fr h₀ L s.heap (fun y => if y = Str.ofString "tower" then some (.int tw tt) else u y)) (B : Below callerA h₀ [] h₀) (hm : ∀ p ∈ news, p.1 ≠ L + 1 + 1 + 1 + 1 + 1) (dy : oy.data = Data.cell z)
    (mw : (L + 1 + 1 + 1, ow) ∈ news) (dw : ow.data = Data.cell (some (.int W tW))) (h1 : 2 ≤ W) (h2 : W ≤ 5) (q1 : ∀ n, n < 81 → n < (stN tw W n).1.length) (q2 : ∀ n, n ≤ 81 → (stN tw W n).1.length ≤ 900) (q3 : (stN tw W 81).1.length = 81)
    (hret : ∀ h' tk' D (od oY : Obj) kvs, Fr h₀ L h' (fun y => if y = Str.ofString "tower" then some (.int tw tt) else u y) → News h₀ L h' ((L + 1 + 1 + 1 + 1 + 1, oY) :: (D, od) :: news) → oY.data = Data.cell (some (.ref D)) → od.IsDictOf (IK w) kvs → FlatPairs PyData.int kvs (kdfD (stN tw W 81).2) → (D == sysModules) = false → (∀ p ∈ news, p.1 < D) → @LT.lt Nat _ (L + 1 + 1 + 1 + 1 + 1) D → Q .next { s with heap := h', toks := tk' }) :
    wpAny (model PySem.Challenge.rw_rw0037_01.row.prog w) (lawA L fa cd) (exec (lawSt 10) (envOfC (Str.ofString "law") lawSc L fa cd)) Q E s := by
  k_with_none
  k_with "execs cons" => (first | (k_here; k_gentoks) | (k_here; k_made) | ((with_reducible refine Mine.Hi.ex_hid ?_); intro qH'Q hH'Q; (try dsimp only)))
  k_with "k_mem" => (first | assumption | exact List.Mem.head _ | (refine' List.Mem.tail _ ?_; k_mem))
  k_with "is_list" => (exact News.isList (by k_asm) (by k_mem))
  k_with "k_all" => (first | assumption | (refine List.forall_mem_cons.mpr ⟨by k_ne, ?_⟩; k_all))
  k_with "call ref" => (((with_reducible show wpAny _ _ (call (Value.ref 91) _) _ _ _); k_dflt (refine' ways_call (K := 81) ?zBK ?zFK ?zXK ?zNK ?zTK ?zkK ?zdK ?zuK ?z1K ?z2K ?z3K ?z4K ?z5K ?_; (case zBK => k_asm); (case zFK => k_asm); (case zXK => k_asm); (case zNK => k_asm); (case zTK => k_asm); (case zkK => first | exact rfl | assumption); (case zdK => ktr_room); (case zuK => ktr_units); (case z1K => assumption); (case z2K => assumption); (case z3K => with_reducible assumption); (case z4K => with_reducible assumption); (case z5K => with_reducible assumption); k_whole); intro D'Q od'Q kvs'Q h'Q tk'Q F'Q N'Q dd1Q dd2Q lo'Q l1Q; (try k_lt l1Q); (try k_sweep); (try dsimp only); (try k_fold)))
  revert X
  have hx : PySem.Challenge.rw_rw0037_01 = PySem.Challenge.rw_rw0037_01 := rfl
  revert hx
  k_fill
  intro hx X
  show wpAny _ (callerA.deeper (envOfC _ (Scope.mk _ _ _ _ _) _ _ _)) (exec (Stmt.Assign [Expr.Name _ _] _ _) (envOfC _ (Scope.mk _ _ _ _ _) _ _ _)) _ _ _
  (try dsimp only)
  (try k_fold)
  repeat' (first | (((fail_if_success (with_reducible show wpAny _ _ _ _ _ _)); first | (refine Mine.Hi.HidV.out (by with_reducible assumption) _ _ ?_) | (refine Mine.Hi.Hid.nxt (by with_reducible assumption) _ ?_) | (refine Mine.Hi.Hid.oth (by with_reducible assumption) _ _ (fun h => nomatch h) ?_)); (try dsimp only)) | (k_unfold; (try dsimp only)) | ((with_reducible show wpAny _ _ (PySem.evalPart _ _) _ _ _); walk1) | ((with_reducible show wpAny _ _ (PyProof.Rows.subscriptTail _ _ _ _) _ _ _); walk1) | (walk1 <;> (try ((fail_if_success (with_reducible show wpAny _ _ (PyProof.Rows.subscriptTail _ _ _ _) _ _ _)); dsimp only))) | (dsimp only; walk1 <;> (try ((fail_if_success (with_reducible show wpAny _ _ (PyProof.Rows.subscriptTail _ _ _ _) _ _ _)); dsimp only))))
  skip
  refine' hret _ _ _ _ _ _ ?F ?N ?d ?d1 ?d2 ?lo ?l1 ?l2
  case F => k_asm
  skip
  case N => exact news_21 (by k_asm)
  skip
  case d => assumption
  skip
  case d1 => assumption
  case d2 => assumption
  skip
  case lo => assumption
  skip
  all_goals (with_reducible rename _ ∧ AllLt _ news => q9)
  · exact allLt_to _ q9.2
  · exact q9.1
end
end Mine.L10
end
theorem Mine.Off.t37 : True := by
  w_top off
  first | (walk1; done) | trivial
section
open Mine.L0 Mine.Cm Mine.Nst Mine.D2i
open PySem PySem.W PyProof.Rows PySem.Calls PyProof.V PySem.Spec



namespace Mine.L11
section
variable {w : World} {p : Program} {loose : List Str} {mean : ExcName → Option Value} {mg mb : Str → Option Value} {h₀ : Heap} {L fa : Addr} {cd : Value} {u : Str → Option Value} {news : List (Addr × Obj)} {s : Shared} {Q : Flow → Shared → Prop} {E : Value → Shared → Prop}

theorem law_11 {W : Int} {tW : Tok} {ow oo : Obj} {z : Option Value} {c' : Addr} {oc' : Obj} {vs' : Array Value} {t' : Tok}
    (X : (hd.heap_39 w.params).In h₀) (N : News h₀ L s.heap ((L + 1 + 1 + 1 + 1 + 1 + 1, oo) :: news)) (T : Top p loose mean mg mb h₀) (F : Fr h₀ L s.heap u) (B : Below callerA h₀ [] h₀) (hm : ∀ p ∈ news, p.1 ≠ L + 1 + 1 + 1 + 1 + 1 + 1) (do_ : oo.data = Data.cell z)
    (mw : (L + 1 + 1 + 1, ow) ∈ news) (dw : ow.data = Data.cell (some (.int W tW))) (h1 : 2 ≤ W) (h2 : W ≤ 5)
    (mt : (44, tabObj #[rawInt 65, rawInt 4, Value.ref c']) ∈ news) (mc : (c', oc') ∈ news) (dc : oc'.data = Data.fields vs') (dc2 : vs'[1]? = some (Value.str (Str.ofString "_digits2int.<locals>.inner") t'))
    (hret : ∀ h' tk' oO t, Fr h₀ L h' u → News h₀ L h' ((L + 1 + 1 + 1 + 1 + 1 + 1, oO) :: news) → oO.data = Data.cell (some (.int (d2iF W 1 1 1 1) t)) → Q .next { s with heap := h', toks := tk' }) :
    wpAny (model PySem.Challenge.rw_rw0037_01.row.prog w) (lawA L fa cd) (exec (lawSt 11) (envOfC (Str.ofString "law") lawSc L fa cd)) Q E s := by
  k_with_none
  k_with "execs cons" => (first | (k_here; k_gentoks) | (k_here; k_made) | ((with_reducible refine Mine.Hi.ex_hid ?_); intro qH'Q hH'Q; (try dsimp only)))
  k_with "k_mem" => (first | assumption | exact List.Mem.head _ | (refine' List.Mem.tail _ ?_; k_mem))
  k_with "is_list" => (exact News.isList (by k_asm) (by k_mem))
  k_with "k_all" => (first | assumption | (refine List.forall_mem_cons.mpr ⟨by k_ne, ?_⟩; k_all))
  k_with "call ref" => (((with_reducible show wpAny _ _ (call (Value.ref 49) _) _ _ _); k_dflt (refine' d2i_hit ?zBK ?zFK ?zXK ?zNK ?zTK ?zkK ?zdK ?zuK ?z1K ?z2K ?a0K ?a1K ?a2K ?a3K ?a4K ?a5K ?a6K ?a7K ?z3K ?z4K ?z5K ?z6K ?z7K ?_; (case zBK => k_asm); (case zFK => k_asm); (case zXK => k_asm); (case zNK => k_asm); (case zTK => k_asm); (case zkK => first | exact rfl | assumption); (case zdK => ktr_room); (case zuK => ktr_units); (case z1K => omega); (case z2K => omega); (case z7K => exact List.Mem.head _); (case a0K => decide); (case a1K => decide); (case a2K => decide); (case a3K => decide); (case a4K => decide); (case a5K => decide); (case a6K => decide); (case a7K => decide); (case z3K => k_mem); (case z4K => k_mem); (case z5K => assumption); (case z6K => assumption); k_whole); intro t'Q h'Q tk'Q F'Q N'Q; (try k_sweep); (try dsimp only); (try k_fold)))
  revert X
  have hx : PySem.Challenge.rw_rw0037_01 = PySem.Challenge.rw_rw0037_01 := rfl
  revert hx
  k_fill
  intro hx X
  show wpAny _ (callerA.deeper (envOfC _ (Scope.mk _ _ _ _ _) _ _ _)) (exec (Stmt.Assign [Expr.Name _ _] _ _) (envOfC _ (Scope.mk _ _ _ _ _) _ _ _)) _ _ _
  (try dsimp only)
  (try k_fold)
  repeat' (first | (((fail_if_success (with_reducible show wpAny _ _ _ _ _ _)); first | (refine Mine.Hi.HidV.out (by with_reducible assumption) _ _ ?_) | (refine Mine.Hi.Hid.nxt (by with_reducible assumption) _ ?_) | (refine Mine.Hi.Hid.oth (by with_reducible assumption) _ _ (fun h => nomatch h) ?_)); (try dsimp only)) | (k_unfold; (try dsimp only)) | ((with_reducible show wpAny _ _ (PySem.evalPart _ _) _ _ _); walk1) | ((with_reducible show wpAny _ _ (PyProof.Rows.subscriptTail _ _ _ _) _ _ _); walk1) | (walk1 <;> (try ((fail_if_success (with_reducible show wpAny _ _ (PyProof.Rows.subscriptTail _ _ _ _) _ _ _)); dsimp only))) | (dsimp only; walk1 <;> (try ((fail_if_success (with_reducible show wpAny _ _ (PyProof.Rows.subscriptTail _ _ _ _) _ _ _)); dsimp only))))
  exact hret _ _ _ _ (by k_asm) (fun p hp => (by assumption : News _ _ _ (_ :: _ :: news)) p (.tail _ hp)) (by assumption)
end
end Mine.L11
end
theorem Mine.Off.t38 : True := by
  w_top off
  first | (walk1; done) | trivial
section
open Mine.L0 Mine.Cm Mine.Nst Mine.I2d Mine.I2w Mine.Fz Mine.Fc Mine.F8
open PySem PySem.W PyProof.Rows PySem.Calls PyProof.V PySem.Spec



namespace Mine.L18
section
variable {w : World} {p : Program} {loose : List Str} {mean : ExcName → Option Value} {mg mb : Str → Option Value} {h₀ : Heap} {L fa : Addr} {cd : Value} {u : Str → Option Value} {news : List (Addr × Obj)} {s : Shared} {Q : Flow → Shared → Prop} {E : Value → Shared → Prop}

theorem law_18 {P0 P1 P2 d0 d1 d2 d3 : Int} {lp ld : Addr} {u0 u1 u2 v0 v1 v2 v3 : Tok} {k1 k2 : Nat} {c : Addr} {oc : Obj} {vc : Array Value} {tc : Tok}
    (X : (hd.heap_39 w.params).In h₀) (N : News h₀ L s.heap news) (T : Top p loose mean mg mb h₀) (F : Fr h₀ L s.heap (fun y => if y = Str.ofString "parts" then some (.ref lp) else if y = Str.ofString "drawn" then some (.ref ld) else u y)) (B : Below callerA h₀ [] h₀)
    (hm : (37, tabI c) ∈ news) (hc : (c, oc) ∈ news) (hc1 : oc.data = Data.fields vc) (hc2 : vc[1]? = some (Value.str QI tc)) (hl : (lp, listOf #[.int P0 u0, .int P1 u1, .int P2 u2] k1) ∈ news) (hl2 : (ld, listOf #[.int d0 v0, .int d1 v1, .int d2 v2, .int d3 v3] k2) ∈ news)
    (one : ∀ d, d < 4 → pkO ((spS P0).getD d 0) ((spS P1).getD d 0) ((spS P2).getD d 0)) (ik0 : i2dOk 1 (15 - P0)) (ik1 : i2dOk 1 (15 - P1)) (ik2 : i2dOk 1 (15 - P2)) (e : (pkN (spS P0) (spS P1) 4).2 = [d0, d1, d2, d3])
    (hret : ∀ h' tk' m', Fr h₀ L h' m' → News h₀ L h' news → Q (.ret (.bool true)) { s with heap := h', toks := tk' }) :
    wpAny (model PySem.Challenge.rw_rw0037_01.row.prog w) (lawA L fa cd) (exec (lawSt 18) (envOfC (Str.ofString "law") lawSc L fa cd)) Q E s := by
  k_with_none
  k_with "execs cons" => (first | (k_here; k_gentoks) | (k_here; k_made) | ((with_reducible refine Mine.Hi.ex_hid ?_); intro qH'Q hH'Q; (try dsimp only)))
  k_with "k_mem" => (first | assumption | exact List.Mem.head _ | (refine' List.Mem.tail _ ?_; k_mem))
  k_with "is_list" => (exact News.isList (by k_asm) (by k_mem))
  k_with "k_all" => (first | assumption | (refine List.forall_mem_cons.mpr ⟨by k_ne, ?_⟩; k_all))
  k_with "call ref" => (((with_reducible show wpAny _ _ (call (Value.ref 96) _) _ _ _); k_dflt (refine' pegs_call ?zBK ?zFK ?zXK ?zNK ?zTK ?zkK ?zdK ?zuK ?z1K ?z2K ?z3K ?z4K ?z5K ?z6K ?z7K ?z8K ?z9K ?_; (case zBK => k_asm); (case zFK => k_asm); (case zXK => k_asm); (case zNK => k_asm); (case zTK => k_asm); (case zkK => first | exact rfl | assumption); (case zdK => ktr_room); (case zuK => ktr_units); (case z1K => assumption); (case z2K => assumption); (case z3K => assumption); (case z4K => assumption); (case z5K => assumption); (case z6K => with_reducible assumption); (case z7K => with_reducible assumption); (case z8K => with_reducible assumption); (case z9K => with_reducible assumption); k_whole); intro D'Q vs1'Q k'Q h'Q tk'Q F'Q N'Q hi'Q l1Q; (try k_lt l1Q); (try k_sweep); (try dsimp only); (try k_fold)))
  revert X
  have hx : PySem.Challenge.rw_rw0037_01 = PySem.Challenge.rw_rw0037_01 := rfl
  revert hx
  k_fill
  intro hx X
  show wpAny _ (callerA.deeper (envOfC _ (Scope.mk _ _ _ _ _) _ _ _)) (exec (Stmt.Return _ _) (envOfC _ (Scope.mk _ _ _ _ _) _ _ _)) _ _ _
  (try dsimp only)
  (try k_fold)
  repeat' (first | (((fail_if_success (with_reducible show wpAny _ _ _ _ _ _)); first | (refine Mine.Hi.HidV.out (by with_reducible assumption) _ _ ?_) | (refine Mine.Hi.Hid.nxt (by with_reducible assumption) _ ?_) | (refine Mine.Hi.Hid.oth (by with_reducible assumption) _ _ (fun h => nomatch h) ?_)); (try dsimp only)) | (k_unfold; (try dsimp only)) | ((with_reducible show wpAny _ _ (PySem.evalPart _ _) _ _ _); walk1) | ((with_reducible show wpAny _ _ (PyProof.Rows.subscriptTail _ _ _ _) _ _ _); walk1) | (walk1 <;> (try ((fail_if_success (with_reducible show wpAny _ _ (PyProof.Rows.subscriptTail _ _ _ _) _ _ _)); dsimp only))) | (dsimp only; walk1 <;> (try ((fail_if_success (with_reducible show wpAny _ _ (PyProof.Rows.subscriptTail _ _ _ _) _ _ _)); dsimp only))))
  rw [decide_eq_true e]
  exact hret _ _ _ (by k_asm) (fun p hp => (by assumption : News _ _ _ (_ :: news)) p (.tail _ hp))
end
end Mine.L18
end
theorem Mine.Off.t39 : True := by
  w_top off
  first | (walk1; done) | trivial
section
open Mine.L0 Mine.Cm Mine.F3 Mine.F5 Mine.F4 Mine.Fc Mine.F6 Mine.L4 Mine.L5 Mine.D2i Mine.L6 Mine.L7 Mine.I2d Mine.I2w Mine.L8 Mine.L9 Mine.Ways0 Mine.F7 Mine.L10 Mine.L11 Mine.L12 Mine.F1 Mine.L13 Mine.F2 Mine.Ct Mine.L14 Mine.L15 Mine.Fs Mine.L16 Mine.Fq Mine.L17 Mine.Fz Mine.F8 Mine.L18
open PySem PySem.W PyProof.Rows PySem.Calls PyProof.V PySem.Spec



namespace Mine.Lr
section
variable {w : World} {p : Program} {loose : List Str} {mean : ExcName → Option Value} {mg mb : Str → Option Value} {h₀ : Heap} {L fa : Addr} {cd : Value} {u : Str → Option Value} {s : Shared} {Q : Flow → Shared → Prop} {E : Value → Shared → Prop}
theorem ex_cons {M : Model} {A : Around} {env : Env} (k : Nat) (e : lawBody.drop k = lawSt k :: lawBody.drop (k + 1)) (h : wpAny M A (exec (lawSt k) env) (fun f s' => match f with | .next => wpAny M A (execs (lawBody.drop (k + 1)) env) Q E s' | f => Q f s') E s) : wpAny M A (execs (lawBody.drop k) env) Q E s := by
  rw [e]; exact wpAny_execs_cons h
theorem fr_pull {h : Heap} {m : Str → Option Value} (x : Str) {v : Option Value} (F : Fr h₀ L h m) (e : m x = v) : Fr h₀ L h (fun y => if y = x then v else m y) := by
  have : m = fun y => if y = x then v else m y := by
    funext y
    by_cases q : y = x
    · subst q; rw [if_pos rfl]; exact e
    · rw [if_neg q]
  exact this ▸ F
theorem nsub {h : Heap} {a b : List (Addr × Obj)} (N : News h₀ L h a) (s : ∀ p ∈ b, p ∈ a) : News h₀ L h b := fun p hp => N p (s p hp)
structure Facts (W d0 d1 d2 d3 x0 x1 x2 : Int) (hx hy hz a b c : UInt64) (m0 m1 m2 m3 p0 p1 p2 : Str) : Prop where
  bd : (0 ≤ d0 ∧ d0 ≤ 2) ∧ (0 ≤ d1 ∧ d1 ≤ 2) ∧ (0 ≤ d2 ∧ d2 ≤ 2) ∧ (0 ≤ d3 ∧ d3 ≤ 2)
  bw : 2 ≤ W ∧ W ≤ 5
  pg : PgPre d0 d1 d2 d3 m0 m1 m2 m3 p0 p1 p2
  rd : RdPre d0 d1 d2 d3 m0 m1 m2 m3 p0 p1 p2
  tw : d2iF W d0 d1 d2 d3 = d0 * 2 ^ (W * 0).toNat + (d1 * 2 ^ (W * 1).toNat + (d2 * 2 ^ (W * 2).toNat + (d3 * 2 ^ (W * 3).toNat + 0)))
  ok : i2dOk W (d2iF W d0 d1 d2 d3)
  g1 : i2dR W (d2iF W d0 d1 d2 d3) ++ (List.replicate (4 - ((i2dR W (d2iF W d0 d1 d2 d3)).length : Int)).toNat [(0 : Int)]).flatten = [d0, d1, d2, d3]
  g2 : ¬ List.drop ((i2dR W (d2iF W d0 d1 d2 d3)).length - 1) (i2dR W (d2iF W d0 d1 d2 d3)) = [0]
  q1 : ∀ n, n < 81 → n < (stN (d2iF W d0 d1 d2 d3) W n).1.length
  q2 : ∀ n, n ≤ 81 → (stN (d2iF W d0 d1 d2 d3) W n).1.length ≤ 900
  q3 : (stN (d2iF W d0 d1 d2 d3) W 81).1.length = 81
  l0 : kdfLook (stN (d2iF W d0 d1 d2 d3) W 81).2 (0 * d2iF W 1 1 1 1) 16 = x0
  l1 : kdfLook (stN (d2iF W d0 d1 d2 d3) W 81).2 (1 * d2iF W 1 1 1 1) 16 = x1
  l2 : kdfLook (stN (d2iF W d0 d1 d2 d3) W 81).2 (2 * d2iF W 1 1 1 1) 16 = x2
  b0 : 0 ≤ x0 ∧ x0 ≤ 16
  b1 : 0 ≤ x1 ∧ x1 ≤ 16
  b2 : 0 ≤ x2 ∧ x2 ≤ 16
  rg : rgbOk (mxF (mxF (lightF x0) (lightF x1)) (lightF x2)) (mnF (mnF (lightF x0) (lightF x1)) (lightF x2))
  rv : rgbG (mxF (mxF (lightF x0) (lightF x1)) (lightF x2)) (mnF (mnF (lightF x0) (lightF x1)) (lightF x2)) (lightF x0) (lightF x1) (lightF x2) = (hx, hy, hz)
  hv : hlsF hx hy hz = (a, b, c)
  c0 : Float64.isFinite (Float64.add (Float64.mul (Float64.ofInt 16) a) 4602678819172646912) = true
  c1 : Float64.isFinite (Float64.add (Float64.mul (Float64.ofInt 16) b) 4602678819172646912) = true
  c2 : Float64.isFinite (Float64.add (Float64.mul (Float64.ofInt 16) c) 4602678819172646912) = true
  f0 : Float64.isFinite (Float64.mul (Float64.ofInt 16) (lightF x0)) = true
  f1 : Float64.isFinite (Float64.mul (Float64.ofInt 16) (lightF x1)) = true
  f2 : Float64.isFinite (Float64.mul (Float64.ofInt 16) (lightF x2)) = true
  pt : [partI a, partI b, partI c] = [PySem.Flt.toInt Float64.truncOf (Float64.mul (Float64.ofInt 16) (lightF x0)), PySem.Flt.toInt Float64.truncOf (Float64.mul (Float64.ofInt 16) (lightF x1)), PySem.Flt.toInt Float64.truncOf (Float64.mul (Float64.ofInt 16) (lightF x2))]
  y1 : (Float64.cmp (mnF (mnF (greyF (lightF x0) (lightF x1) (lightF x2)) (greyF (lightF x0) (lightF x1) (lightF x2))) (greyF (lightF x0) (lightF x1) (lightF x2))) (mxF (mxF (greyF (lightF x0) (lightF x1) (lightF x2)) (greyF (lightF x0) (lightF x1) (lightF x2))) (greyF (lightF x0) (lightF x1) (lightF x2))) == some .eq) = true
  y2 : Float64.div (Float64.add (mxF (mxF (greyF (lightF x0) (lightF x1) (lightF x2)) (greyF (lightF x0) (lightF x1) (lightF x2))) (greyF (lightF x0) (lightF x1) (lightF x2))) (mnF (mnF (greyF (lightF x0) (lightF x1) (lightF x2)) (greyF (lightF x0) (lightF x1) (lightF x2))) (greyF (lightF x0) (lightF x1) (lightF x2)))) 4611686018427387904 = 4603804719079489536
  z0 : (Float64.cmp 0 0 == some .eq) = true
  z1 : (Float64.cmp 4603804719079489536 4603804719079489536 == some .eq) = true
  one : ∀ d, d < 4 → pkO ((spS (partI a)).getD d 0) ((spS (partI b)).getD d 0) ((spS (partI c)).getD d 0)
  k0 : i2dOk 1 (15 - partI a)
  k1 : i2dOk 1 (15 - partI b)
  k2 : i2dOk 1 (15 - partI c)
  fin : (pkN (spS (partI a)) (spS (partI b)) 4).2 = [d0, d1, d2, d3]
theorem law_rest {W d0 d1 d2 d3 x0 x1 x2 : Int} {hx hy hz a b c : UInt64} {m0 m1 m2 m3 p0 p1 p2 : Str} (K : Facts W d0 d1 d2 d3 x0 x1 x2 hx hy hz a b c m0 m1 m2 m3 p0 p1 p2)
    {ld lm : Addr} {u0 u1 u2 u3 v0 v1 v2 v3 tW : Tok} {k1 k2 : Nat} {ow op oy oo : Obj} {zp zy zo : Option Value}
    (X : (hd.heap_39 w.params).In h₀) (T : Top p loose mean mg mb h₀) (B : Below callerA h₀ [] h₀)
    (F : Fr h₀ L s.heap (fun y => if y = Str.ofString "drawn" then some (.ref ld) else if y = Str.ofString "marks" then some (.ref lm) else u y))
    (N : News h₀ L s.heap [(L + 1 + 1 + 1 + 1, op), (ld, listOf #[.int d0 u0, .int d1 u1, .int d2 u2, .int d3 u3] k1), (lm, listOf #[.str m0 v0, .str m1 v1, .str m2 v2, .str m3 v3] k2), (L + 1 + 1 + 1, ow), (L + 1 + 1 + 1 + 1 + 1, oy), (L + 1 + 1 + 1 + 1 + 1 + 1, oo), (44, tabObj #[]), (37, tabObj #[])])
    (dw : ow.data = Data.cell (some (.int W tW))) (dp : op.data = Data.cell zp) (dy : oy.data = Data.cell zy) (do_ : oo.data = Data.cell zo)
    (hL1 : @LT.lt Nat _ 44 L) (hL2 : @LT.lt Nat _ 37 L) (hl1 : @LT.lt Nat _ (L + 1 + 1 + 1 + 1 + 1 + 1) ld) (hl2 : @Ne Nat lm (L + 1 + 1 + 1 + 1))
    (hret : ∀ h' tk' m' c1 c2, Fr h₀ L h' m' → News h₀ L h' [(44, tabObj #[rawInt 65, rawInt 4, Value.ref c1]), (37, tabObj #[rawInt 50, rawInt 4, Value.ref c2])] → Q (.ret (.bool true)) { s with heap := h', toks := tk' }) :
    wpAny (model PySem.Challenge.rw_rw0037_01.row.prog w) (lawA L fa cd) (execs (lawBody.drop 4) (envOfC (Str.ofString "law") lawSc L fa cd)) Q E s := by
  k_with_none
  obtain ⟨⟨h00, h01⟩, ⟨h10, h11⟩, ⟨h20, h21⟩, h30, h31⟩ := K.bd
  obtain ⟨hw1, hw2⟩ := K.bw
  refine ex_cons 4 rfl (law_4 X N T F B ?n4 dp (.head _) (.tail _ (.head _)) h00 h01 h10 h11 h20 h21 h30 h31 K.pg K.rd ?_)
  case n4 => (repeat (first | exact List.forall_mem_nil _ | refine List.forall_mem_cons.mpr ⟨by (show @Ne Nat _ _; omega), ?_⟩))
  intro h4 tk4 D1 oP t0 t1 t2 t3 k4 F4 N4 dP lo4 lt4
  have s4 : ∀ z : Addr, @LT.lt Nat _ z (L + 1 + 1 + 1 + 1) → @LT.lt Nat _ z D1 := fun z hz => Nat.lt_trans hz lt4
  have n4a : @LT.lt Nat _ ld D1 := lo4 _ (.head _)
  have n4b : @LT.lt Nat _ (L + 1 + 1 + 1 + 1 + 1 + 1) D1 := lo4 _ (.tail _ (.tail _ (.tail _ (.tail _ (.head _)))))
  show wpAny _ _ (execs (lawBody.drop 5) _) _ _ _
  refine ex_cons 5 rfl (law_5 (s := { s with heap := h4, toks := tk4 }) X N4 T F4 (.head _) (.tail _ (.head _)) (.tail _ (.tail _ (.head _))) dP ?_)
  intro h5 tk5 F5 N5
  show wpAny _ _ (execs (lawBody.drop 6) _) _ _ _
  refine ex_cons 6 rfl (law_6 (s := { s with heap := h5, toks := tk5 }) (news := [(L + 1 + 1 + 1 + 1, oP), (D1, listOf #[.int d0 t0, .int d1 t1, .int d2 t2, .int d3 t3] k4), (ld, listOf #[.int d0 u0, .int d1 u1, .int d2 u2, .int d3 u3] k1), (L + 1 + 1 + 1, ow), (L + 1 + 1 + 1 + 1 + 1, oy), (L + 1 + 1 + 1 + 1 + 1 + 1, oo), (37, tabObj #[])]) X (nsub N5 (by lcg_sub)) T F5 B ?n6 (.tail _ (.tail _ (.tail _ (.head _)))) (.head _) (.tail _ (.head _)) dw dP hw1 hw2 h00 h01 h10 h11 h20 h21 h30 h31 ?_)
  case n6 => (repeat (first | exact List.forall_mem_nil _ | refine List.forall_mem_cons.mpr ⟨by (show @Ne Nat _ _; omega), ?_⟩))
  intro h6 tk6 tt c1 oc1 vc1 tc1 F6 N6 dc1 dc1' lo6 lt6
  have n6a : @LT.lt Nat _ (L + 1 + 1 + 1 + 1 + 1 + 1) c1 := lo6 _ (.tail _ (.tail _ (.tail _ (.tail _ (.tail _ (.head _))))))
  have n6b : @LT.lt Nat _ D1 c1 := lo6 _ (.tail _ (.head _))
  show wpAny _ _ (execs (lawBody.drop 7) _) _ _ _
  refine ex_cons 7 rfl (law_7 (s := { s with heap := h6, toks := tk6 }) F6 X N6 T (.tail _ (.tail _ (.tail _ (.tail _ (.tail _ (.head _)))))) (.tail _ (.tail _ (.head _))) (.tail _ (.tail _ (.tail _ (.head _)))) dw dP hw1 hw2 h00 h01 h10 h11 h20 h21 h30 h31 K.tw ?_)
  intro h7 tk7 F7 N7
  show wpAny _ _ (execs (lawBody.drop 8) _) _ _ _
  refine ex_cons 8 rfl (law_8 (s := { s with heap := h7, toks := tk7 }) (news := [(c1, oc1), (44, tabObj #[rawInt 65, rawInt 4, Value.ref c1]), (L + 1 + 1 + 1 + 1, oP), (D1, listOf #[.int d0 t0, .int d1 t1, .int d2 t2, .int d3 t3] k4), (ld, listOf #[.int d0 u0, .int d1 u1, .int d2 u2, .int d3 u3] k1), (L + 1 + 1 + 1, ow), (L + 1 + 1 + 1 + 1 + 1, oy), (L + 1 + 1 + 1 + 1 + 1 + 1, oo)]) X (nsub N7 (by lcg_sub)) T F7 B ?n8 (.tail _ (.tail _ (.tail _ (.tail _ (.tail _ (.head _)))))) dw K.ok ?_)
  case n8 => (repeat (first | exact List.forall_mem_nil _ | refine List.forall_mem_cons.mpr ⟨by (show @Ne Nat _ _; omega), ?_⟩))
  intro h8 tk8 Dg vg kg c2 oc2 vc2 tc2 F8 N8 hi8 dc2 dc2' lo8 lo8' lt8 lt8'
  have n8a : @LT.lt Nat _ (L + 1 + 1 + 1 + 1 + 1 + 1) Dg := lo8 _ (.tail _ (.tail _ (.tail _ (.tail _ (.tail _ (.tail _ (.tail _ (.head _))))))))
  have n8b : @LT.lt Nat _ (L + 1 + 1 + 1 + 1 + 1 + 1) c2 := lo8' _ (.tail _ (.tail _ (.tail _ (.tail _ (.tail _ (.tail _ (.tail _ (.head _))))))))
  show wpAny _ _ (execs (lawBody.drop 9) _) _ _ _
  refine ex_cons 9 rfl (law_9 (s := { s with heap := h8, toks := tk8 }) X N8 T F8 (.tail _ (.tail _ (.tail _ (.tail _ (.tail _ (.head _)))))) (.tail _ (.tail _ (.tail _ (.tail _ (.tail _ (.tail _ (.head _))))))) (.head _) dP hi8 (i2dR_len K.ok) K.g1 K.g2 ?_)
  intro h9 tk9 F9 N9
  show wpAny _ _ (execs (lawBody.drop 10) _) _ _ _
  refine ex_cons 10 rfl (law_10 (s := { s with heap := h9, toks := tk9 }) (news := [(c2, oc2), (37, tabI c2), (c1, oc1), (44, tabObj #[rawInt 65, rawInt 4, Value.ref c1]), (ld, listOf #[.int d0 u0, .int d1 u1, .int d2 u2, .int d3 u3] k1), (L + 1 + 1 + 1, ow), (L + 1 + 1 + 1 + 1 + 1 + 1, oo)]) X (nsub N9 (by lcg_sub)) T (fr_pull (Str.ofString "tower") F9 rfl) B ?n10 dy (.tail _ (.tail _ (.tail _ (.tail _ (.tail _ (.head _)))))) dw hw1 hw2 K.q1 K.q2 K.q3 ?_)
  case n10 => (repeat (first | exact List.forall_mem_nil _ | refine List.forall_mem_cons.mpr ⟨by (show @Ne Nat _ _; omega), ?_⟩))
  intro h10' tk10 Dw od oY kvs F10 N10 dY hod hfl hsy lo10 lt10
  have n10a : @LT.lt Nat _ (L + 1 + 1 + 1 + 1 + 1 + 1) Dw := lo10 _ (.tail _ (.tail _ (.tail _ (.tail _ (.tail _ (.tail _ (.head _)))))))
  show wpAny _ _ (execs (lawBody.drop 11) _) _ _ _
  refine ex_cons 11 rfl (law_11 (s := { s with heap := h10', toks := tk10 }) (news := [(L + 1 + 1 + 1 + 1 + 1, oY), (Dw, od), (c2, oc2), (37, tabI c2), (c1, oc1), (44, tabObj #[rawInt 65, rawInt 4, Value.ref c1]), (ld, listOf #[.int d0 u0, .int d1 u1, .int d2 u2, .int d3 u3] k1), (L + 1 + 1 + 1, ow)]) X (nsub N10 (by lcg_sub)) T F10 B ?n11 do_ (.tail _ (.tail _ (.tail _ (.tail _ (.tail _ (.tail _ (.tail _ (.head _)))))))) dw hw1 hw2 (.tail _ (.tail _ (.tail _ (.tail _ (.tail _ (.head _)))))) (.tail _ (.tail _ (.tail _ (.tail _ (.head _))))) dc1 dc1' ?_)
  case n11 => (repeat (first | exact List.forall_mem_nil _ | refine List.forall_mem_cons.mpr ⟨by (show @Ne Nat _ _; omega), ?_⟩))
  intro h11' tk11 oO tO F11 N11 dO
  show wpAny _ _ (execs (lawBody.drop 12) _) _ _ _
  refine ex_cons 12 rfl (law_12 (s := { s with heap := h11', toks := tk11 }) X N11 T F11 (.tail _ (.head _)) (.head _) (.tail _ (.tail _ (.head _))) dY dO hod hfl hsy K.l0 K.l1 K.l2 K.b0 K.b1 K.b2 ?_)
  intro h12 tk12 Dl tl0 tl1 tl2 kl F12 N12
  show wpAny _ _ (execs (lawBody.drop 13) _) _ _ _
  refine ex_cons 13 rfl (law_13 (s := { s with heap := h12, toks := tk12 }) X N12 T F12 B (.head _) K.rg ?_)
  intro h13 tk13 x y z th1 th2 th3 e13 F13 N13
  obtain ⟨rfl, e13'⟩ := Prod.mk.inj (K.rv.symm.trans e13)
  obtain ⟨rfl, rfl⟩ := Prod.mk.inj e13'
  show wpAny _ _ (execs (lawBody.drop 14) _) _ _ _
  refine ex_cons 14 rfl (law_14 (s := { s with heap := h13, toks := tk13 }) X N13 T F13 B K.hv K.c0 K.c1 K.c2 ?_)
  intro h14 tk14 Dp tp0 tp1 tp2 kp F14 N14
  show wpAny _ _ (execs (lawBody.drop 15) _) _ _ _
  refine ex_cons 15 rfl (law_15 (s := { s with heap := h14, toks := tk14 }) X N14 T (fr_pull (Str.ofString "parts") (fr_pull (Str.ofString "light") F14 rfl) rfl) (.tail _ (.head _)) (.head _) K.f0 K.f1 K.f2 K.pt ?_)
  intro h15 tk15 F15 N15
  show wpAny _ _ (execs (lawBody.drop 16) _) _ _ _
  refine ex_cons 16 rfl (law_16 (s := { s with heap := h15, toks := tk15 }) X N15 T (fr_pull (Str.ofString "light") F15 rfl) (.tail _ (.head _)) ?_)
  intro h16 tk16 tg F16 N16
  show wpAny _ _ (execs (lawBody.drop 17) _) _ _ _
  refine ex_cons 17 rfl (law_17 (s := { s with heap := h16, toks := tk16 }) X N16 T F16 B K.y1 K.y2 K.z0 K.z1 ?_)
  intro h17 tk17 F17 N17
  show wpAny _ _ (execs (lawBody.drop 18) _) _ _ _
  refine ex_cons 18 rfl (law_18 (s := { s with heap := h17, toks := tk17 }) X N17 T (fr_pull (Str.ofString "parts") (fr_pull (Str.ofString "drawn") F17 rfl) rfl) B (by k_mem) (by k_mem) dc2 dc2' (.head _) (by k_mem) K.one K.k0 K.k1 K.k2 K.fin ?_)
  intro h18 tk18 m18 F18 N18
  exact hret h18 tk18 m18 c1 c2 F18 (nsub N18 (by lcg_sub))
end
end Mine.Lr
end
theorem Mine.Off.t40 : True := by
  w_top off
  first | (walk1; done) | trivial
section
open Mine.Ways0
open PySem PySem.W PyProof.Rows PySem.Calls PyProof.V PySem.Spec



namespace Mine.P1
noncomputable def dig (t d : Nat) : Nat := Nat.mod (Nat.div t (Nat.pow 3 d)) 3
noncomputable def nMv (t i d : Nat) : Nat := Nat.add (Nat.sub t (Nat.mul (dig t d) (Nat.pow 3 d))) (Nat.mul (Nat.sub (Nat.sub 3 i) (dig t d)) (Nat.pow 3 d))
noncomputable def gt (B a i : Nat) : Nat := Nat.mod (Nat.div a (Nat.pow B i)) B
noncomputable def pt (B a i v : Nat) : Nat := Nat.add a (Nat.mul v (Nat.pow B i))
theorem gt_pt {B a i v j : Nat} (hB : 0 < B) (hv : v < B) (h0 : gt B a i = 0) : gt B (pt B a i v) j = if j = i then v else gt B a j := by
  have h0' : a / B ^ i % B = 0 := h0
  show (a + v * B ^ i) / B ^ j % B = if j = i then v else a / B ^ j % B
  have hp : ∀ k, 0 < B ^ k := fun k => Nat.pow_pos hB
  rcases Nat.lt_trichotomy j i with h | h | h
  · rw [if_neg (Nat.ne_of_lt h)]
    obtain ⟨c, rfl⟩ : ∃ c, i = j + (c + 1) := ⟨i - j - 1, by omega⟩
    rw [show v * B ^ (j + (c + 1)) = B ^ j * (B * (v * B ^ c)) by rw [Nat.pow_add, Nat.pow_succ]; ac_rfl, Nat.add_mul_div_left _ _ (hp j), Nat.add_mul_mod_self_left]
  · subst h
    rw [if_pos rfl, Nat.add_mul_div_right _ _ (hp j), Nat.add_mod, h0', Nat.zero_add, Nat.mod_mod, Nat.mod_eq_of_lt hv]
  · rw [if_neg (Nat.ne_of_gt h)]
    obtain ⟨c, rfl⟩ : ∃ c, j = i + 1 + c := ⟨j - i - 1, by omega⟩
    rw [Nat.pow_add, ← Nat.div_div_eq_div_mul, ← Nat.div_div_eq_div_mul, Nat.pow_succ, ← Nat.div_div_eq_div_mul, ← Nat.div_div_eq_div_mul, Nat.add_mul_div_right _ _ (hp i)]
    have : (a / B ^ i + v) / B = a / B ^ i / B := by
      have e := Nat.div_add_mod (a / B ^ i) B
      rw [h0', Nat.add_zero] at e
      rw [← e, Nat.mul_comm B, Nat.add_comm, Nat.add_mul_div_right _ _ hB, Nat.div_eq_of_lt hv, Nat.zero_add, Nat.mul_div_cancel _ hB]
    rw [this]
section
variable {β : Type}
noncomputable def nPutK (t t' q len tab : Nat) (k : Nat → Nat → Nat → β) (e : β) : β := match Nat.beq (gt 32 tab t') 0 with
  | false => k q len tab
  | true => match Nat.blt (Nat.add (gt 32 tab t) 1) 32 with
    | true => k (pt 128 q len t') (Nat.add len 1) (pt 32 tab t' (Nat.add (gt 32 tab t) 1))
    | false => e
noncomputable def nStepK (t i q len tab : Nat) (k : Nat → Nat → Nat → β) (e : β) : β := match Nat.beq (dig t 0) i with
  | false => nPutK t (nMv t i 0) q len tab k e
  | true => match Nat.beq (dig t 1) i with
    | false => nPutK t (nMv t i 1) q len tab k e
    | true => match Nat.beq (dig t 2) i with
      | false => nPutK t (nMv t i 2) q len tab k e
      | true => match Nat.beq (dig t 3) i with
        | false => nPutK t (nMv t i 3) q len tab k e
        | true => k q len tab
noncomputable def nRun : Nat → Nat → Nat → Nat → Nat → (Nat → Nat → Nat → β) → β → β
  | 0, _, q, len, tab, k, _ => k q len tab
  | j + 1, n, q, len, tab, k, e => match Nat.blt n len with
    | false => e
    | true => nStepK (gt 128 q n) 0 q len tab (fun q1 len1 tab1 => nStepK (gt 128 q n) 1 q1 len1 tab1 (fun q2 len2 tab2 => nStepK (gt 128 q n) 2 q2 len2 tab2 (fun q3 len3 tab3 => nRun j (Nat.add n 1) q3 len3 tab3 k e) e) e) e
end
noncomputable def wayC (f x0 x1 x2 : Nat) : Bool := nRun 81 0 f 1 (Nat.pow 32 f) (fun _ len tab => Nat.beq len 81 && (Nat.beq (gt 32 tab 0) (Nat.add x0 1) && (Nat.beq (gt 32 tab 40) (Nat.add x1 1) && Nat.beq (gt 32 tab 80) (Nat.add x2 1)))) false
/-- the tower's number at that width -/
noncomputable def enc (w : Int) (t : Nat) : Int := (((dig t 3 : Nat) : Int) * 2 ^ ((3 - 2) * w).toNat + ((dig t 2 : Nat) : Int)) * 2 ^ ((2 - 0) * w).toNat + (((dig t 1 : Nat) : Int) * 2 ^ ((1 - 0) * w).toNat + ((dig t 0 : Nat) : Int))
structure EncOk (w : Int) : Prop where
  inj : ∀ a b : Fin 81, enc w a.val = enc w b.val → a.val = b.val
  peg : ∀ t : Fin 81, ∀ d : Fin 4, pegF w (enc w t.val) (d.val : Int) = ((dig t.val d.val : Nat) : Int)
  mv : ∀ t : Fin 81, ∀ i : Fin 3, ∀ d : Fin 4, dig t.val d.val ≠ i.val → mvF w (enc w t.val) (i.val : Int) (d.val : Int) = enc w (nMv t.val i.val d.val) ∧ nMv t.val i.val d.val < 81
theorem dig_sum : ∀ a : Fin 81, a.val = dig a.val 0 + 3 * dig a.val 1 + 9 * dig a.val 2 + 27 * dig a.val 3 := by decide +kernel
theorem EncOk.inj' {w : Int} (E : EncOk w) {a b : Nat} (ha : a < 81) (hb : b < 81) (h : enc w a = enc w b) : a = b := E.inj ⟨a, ha⟩ ⟨b, hb⟩ h
theorem inj_of {w : Int} (peg : ∀ t : Fin 81, ∀ d : Fin 4, pegF w (enc w t.val) (d.val : Int) = ((dig t.val d.val : Nat) : Int)) : ∀ a b : Fin 81, enc w a.val = enc w b.val → a.val = b.val := by
  intro a b h
  have q : ∀ d : Fin 4, dig a.val d.val = dig b.val d.val := fun d => by
    have h1 := peg a d
    have h2 := peg b d
    rw [h, h2] at h1
    exact (Int.ofNat.inj h1).symm
  have q0 := q 0
  have q1 := q 1
  have q2 := q 2
  have q3 := q 3
  have ea := dig_sum a
  have eb := dig_sum b
  simp only [Fin.val_zero, Fin.val_one, Fin.val_two] at q0 q1 q2
  have q3' : dig a.val 3 = dig b.val 3 := q3
  omega
theorem peg2 : ∀ t : Fin 81, ∀ d : Fin 4, pegF 2 (enc 2 t.val) (d.val : Int) = ((dig t.val d.val : Nat) : Int) := by decide +kernel
theorem mv2 : ∀ t : Fin 81, ∀ i : Fin 3, ∀ d : Fin 4, dig t.val d.val ≠ i.val → mvF 2 (enc 2 t.val) (i.val : Int) (d.val : Int) = enc 2 (nMv t.val i.val d.val) ∧ nMv t.val i.val d.val < 81 := by decide +kernel
theorem peg3 : ∀ t : Fin 81, ∀ d : Fin 4, pegF 3 (enc 3 t.val) (d.val : Int) = ((dig t.val d.val : Nat) : Int) := by decide +kernel
theorem mv3 : ∀ t : Fin 81, ∀ i : Fin 3, ∀ d : Fin 4, dig t.val d.val ≠ i.val → mvF 3 (enc 3 t.val) (i.val : Int) (d.val : Int) = enc 3 (nMv t.val i.val d.val) ∧ nMv t.val i.val d.val < 81 := by decide +kernel
theorem peg4 : ∀ t : Fin 81, ∀ d : Fin 4, pegF 4 (enc 4 t.val) (d.val : Int) = ((dig t.val d.val : Nat) : Int) := by decide +kernel
theorem mv4 : ∀ t : Fin 81, ∀ i : Fin 3, ∀ d : Fin 4, dig t.val d.val ≠ i.val → mvF 4 (enc 4 t.val) (i.val : Int) (d.val : Int) = enc 4 (nMv t.val i.val d.val) ∧ nMv t.val i.val d.val < 81 := by decide +kernel
theorem peg5 : ∀ t : Fin 81, ∀ d : Fin 4, pegF 5 (enc 5 t.val) (d.val : Int) = ((dig t.val d.val : Nat) : Int) := by decide +kernel
theorem mv5 : ∀ t : Fin 81, ∀ i : Fin 3, ∀ d : Fin 4, dig t.val d.val ≠ i.val → mvF 5 (enc 5 t.val) (i.val : Int) (d.val : Int) = enc 5 (nMv t.val i.val d.val) ∧ nMv t.val i.val d.val < 81 := by decide +kernel
theorem encOk {w : Int} (h1 : 2 ≤ w) (h2 : w ≤ 5) : EncOk w := by
  have : w = 2 ∨ w = 3 ∨ w = 4 ∨ w = 5 := by omega
  rcases this with rfl | rfl | rfl | rfl
  · exact ⟨inj_of peg2, peg2, mv2⟩
  · exact ⟨inj_of peg3, peg3, mv3⟩
  · exact ⟨inj_of peg4, peg4, mv4⟩
  · exact ⟨inj_of peg5, peg5, mv5⟩
/-- the run over plain numbers tells the run over the program's -/
structure RelL (w : Int) (l : List Nat) (st : WSt) (q len tab : Nat) : Prop where
  e1 : st.1 = l.map (enc w)
  e2 : st.2 = l.map (fun t => (enc w t, ((gt 32 tab t : Nat) : Int) - 1))
  ln : len = l.length
  lt : ∀ t ∈ l, t < 81
  hq : ∀ n, gt 128 q n = l.getD n 0
  ht : ∀ t, t < 81 → (gt 32 tab t = 0 ↔ t ∉ l)
theorem has_rel {w : Int} (E : EncOk w) {g : Nat → Int} {t' : Nat} (ht' : t' < 81) : ∀ {l : List Nat}, (∀ t ∈ l, t < 81) → (kdfHas (l.map fun t => (enc w t, g t)) (enc w t') = true ↔ t' ∈ l)
  | [], _ => by simp [kdfHas]
  | a :: l, h => by
    have ih := has_rel E (g := g) ht' (fun t ht => h t (.tail _ ht)) (l := l)
    unfold kdfHas at ih ⊢
    rw [List.map_cons, List.any_cons, Bool.or_eq_true, ih, List.mem_cons, decide_eq_true_eq]
    constructor
    · rintro (q | q)
      · exact .inl (E.inj' (h a (.head _)) ht' q).symm
      · exact .inr q
    · rintro (q | q)
      · exact .inl (by rw [q])
      · exact .inr q
theorem look_rel {w : Int} (E : EncOk w) {g : Nat → Int} {t : Nat} (ht : t < 81) (d : Int) : ∀ {l : List Nat}, (∀ t ∈ l, t < 81) → t ∈ l → kdfLook (l.map fun t => (enc w t, g t)) (enc w t) d = g t
  | [], _, hm => nomatch hm
  | a :: l, h, hm => by
    unfold kdfLook
    rw [List.map_cons, List.find?_cons]
    by_cases q : enc w a = enc w t
    · have : a = t := E.inj' (h a (.head _)) ht q
      subst this
      simp
    · have ne : t ≠ a := fun e => q (by rw [e])
      have hm' : t ∈ l := by
        rcases List.mem_cons.mp hm with e | e
        · exact absurd e ne
        · exact e
      have ih := look_rel E (g := g) ht d (fun t ht => h t (.tail _ ht)) hm'
      unfold kdfLook at ih
      simp only [q, decide_false]
      exact ih
theorem sim_put {w : Int} (E : EncOk w) {l : List Nat} {st : WSt} {q len tab t t' : Nat} {i d : Int} {k : Nat → Nat → Nat → Bool} (R : RelL w l st q len tab) (ht : t ∈ l) (ht' : t' < 81) (hmv : mvF w (enc w t) i d = enc w t') (h : nPutK t t' q len tab k false = true) :
    ∃ l' q' len' tab', RelL w l' (putF w (enc w t) i d st) q' len' tab' ∧ t ∈ l' ∧ k q' len' tab' = true := by
  have hb := has_rel E (g := fun t => ((gt 32 tab t : Nat) : Int) - 1) ht' R.lt
  rw [← R.e2] at hb
  unfold nPutK at h
  unfold putF
  rw [hmv]
  by_cases hm : t' ∈ l
  · rw [if_pos (hb.mpr hm)]
    have nz : gt 32 tab t' ≠ 0 := fun e => (R.ht t' ht').mp e hm
    have : Nat.beq (gt 32 tab t') 0 = false := by
      cases q : Nat.beq (gt 32 tab t') 0 with
      | false => rfl
      | true => exact absurd (Nat.eq_of_beq_eq_true q) nz
    rw [this] at h
    exact ⟨l, q, len, tab, R, ht, h⟩
  · have hf : kdfHas st.2 (enc w t') = false := by
      cases q : kdfHas st.2 (enc w t') with
      | false => rfl
      | true => exact absurd (hb.mp q) hm
    rw [if_neg (by rw [hf]; exact Bool.false_ne_true)]
    have z : gt 32 tab t' = 0 := (R.ht t' ht').mpr hm
    rw [z] at h
    have b0 : Nat.beq 0 0 = true := rfl
    rw [b0] at h
    dsimp only at h
    cases hv : Nat.blt (Nat.add (gt 32 tab t) 1) 32 with
    | false => rw [hv] at h; cases h
    | true =>
      rw [hv] at h
      dsimp only at h
      have hv' : gt 32 tab t + 1 < 32 := by
        have := Nat.le_of_ble_eq_true hv
        exact this
      have hz : gt 128 q len = 0 := by rw [R.hq, R.ln, List.getD_eq_getElem?_getD, List.getElem?_eq_none (Nat.le_refl _)]; rfl
      have g1 := fun j => gt_pt (B := 32) (a := tab) (i := t') (v := gt 32 tab t + 1) (j := j) (by decide) hv' z
      have g2 := fun j => gt_pt (B := 128) (a := q) (i := len) (v := t') (j := j) (by decide) (by omega) hz
      refine ⟨l ++ [t'], _, _, _, ⟨?_, ?_, ?_, ?_, ?_, ?_⟩, List.mem_append_left _ ht, h⟩
      · show st.1 ++ [enc w t'] = _
        rw [R.e1, List.map_append]; rfl
      · show kdfPut st.2 (enc w t') (kdfLook st.2 (enc w t) 0 + 1) = _
        unfold kdfPut
        have hf' := hf
        unfold kdfHas at hf'
        rw [if_neg (by rw [hf']; exact Bool.false_ne_true)]
        have hl : kdfLook st.2 (enc w t) 0 = ((gt 32 tab t : Nat) : Int) - 1 := by
          rw [R.e2]; exact look_rel E (g := fun t => ((gt 32 tab t : Nat) : Int) - 1) (R.lt t ht) 0 R.lt ht
        rw [hl, R.e2, List.map_append]
        congr 1
        · refine List.map_congr_left fun a ha => ?_
          rw [show gt 32 (pt 32 tab t' (Nat.add (gt 32 tab t) 1)) a = _ from g1 a, if_neg (fun (e : a = t') => hm (e ▸ ha))]
        · show [(enc w t', ((gt 32 tab t : Nat) : Int) - 1 + 1)] = [(enc w t', ((gt 32 (pt 32 tab t' (Nat.add (gt 32 tab t) 1)) t' : Nat) : Int) - 1)]
          rw [show gt 32 (pt 32 tab t' (Nat.add (gt 32 tab t) 1)) t' = _ from g1 t', if_pos rfl]
          have : ((gt 32 tab t : Nat) : Int) - 1 + 1 = (((gt 32 tab t + 1 : Nat)) : Int) - 1 := by omega
          rw [this]
      · show len + 1 = _
        rw [List.length_append, R.ln]; rfl
      · intro a ha
        rcases List.mem_append.mp ha with ha | ha
        · exact R.lt a ha
        · rw [List.mem_singleton.mp ha]; exact ht'
      · intro n
        rw [show gt 128 (pt 128 q len t') n = _ from g2 n, R.ln, List.getD_eq_getElem?_getD, R.hq n, List.getD_eq_getElem?_getD]
        rcases Nat.lt_trichotomy n l.length with q1 | q1 | q1
        · rw [if_neg (Nat.ne_of_lt q1), List.getElem?_append_left q1]
        · subst q1
          rw [if_pos rfl, List.getElem?_append_right (Nat.le_refl _), Nat.sub_self]; rfl
        · rw [if_neg (Nat.ne_of_gt q1), List.getElem?_eq_none (Nat.le_of_lt q1), List.getElem?_eq_none (by rw [List.length_append, List.length_singleton]; omega)]
      · intro a ha
        rw [show gt 32 (pt 32 tab t' (Nat.add (gt 32 tab t) 1)) a = _ from g1 a]
        by_cases e : a = t'
        · subst e
          rw [if_pos rfl]
          constructor
          · intro e; omega
          · intro e; exact absurd (List.mem_append_right _ (List.mem_singleton.mpr rfl)) e
        · rw [if_neg e, R.ht a ha, List.mem_append, List.mem_singleton, not_or]
          exact ⟨fun x => ⟨x, e⟩, fun x => x.1⟩
theorem beq_cases (a b : Nat) : (Nat.beq a b = true ∧ a = b) ∨ (Nat.beq a b = false ∧ a ≠ b) := by
  cases q : Nat.beq a b with
  | true => exact .inl ⟨rfl, Nat.eq_of_beq_eq_true q⟩
  | false => exact .inr ⟨rfl, fun e => by rw [e, Nat.beq_refl] at q; cases q⟩
theorem sim_step {w : Int} (E : EncOk w) {l : List Nat} {st : WSt} {q len tab t i : Nat} {k : Nat → Nat → Nat → Bool} (R : RelL w l st q len tab) (ht : t ∈ l) (hi : i < 3) (h : nStepK t i q len tab k false = true) :
    ∃ l' q' len' tab', RelL w l' (wstep w (enc w t) st (i : Int)) q' len' tab' ∧ t ∈ l' ∧ k q' len' tab' = true := by
  have t81 := R.lt t ht
  have pg : ∀ d : Fin 4, pegF w (enc w t) (d.val : Int) = ((dig t d.val : Nat) : Int) := fun d => E.peg ⟨t, t81⟩ d
  have p0 : pegF w (enc w t) 0 = ((dig t 0 : Nat) : Int) := pg 0
  have p1 : pegF w (enc w t) 1 = ((dig t 1 : Nat) : Int) := pg 1
  have p2 : pegF w (enc w t) 2 = ((dig t 2 : Nat) : Int) := pg 2
  have p3 : pegF w (enc w t) 3 = ((dig t 3 : Nat) : Int) := pg 3
  have mv : ∀ d : Fin 4, dig t d.val ≠ i → mvF w (enc w t) (i : Int) (d.val : Int) = enc w (nMv t i d.val) ∧ nMv t i d.val < 81 := fun d hd => E.mv ⟨t, t81⟩ ⟨i, hi⟩ d hd
  unfold nStepK at h
  unfold wstep
  rw [p0, p1, p2, p3]
  rcases beq_cases (dig t 0) i with ⟨b, e⟩ | ⟨b, e⟩
  · rw [b] at h
    rw [if_neg (by rw [e]; simp)]
    dsimp only at h
    rcases beq_cases (dig t 1) i with ⟨b, e⟩ | ⟨b, e⟩
    · rw [b] at h
      rw [if_neg (by rw [e]; simp)]
      dsimp only at h
      rcases beq_cases (dig t 2) i with ⟨b, e⟩ | ⟨b, e⟩
      · rw [b] at h
        rw [if_neg (by rw [e]; simp)]
        dsimp only at h
        rcases beq_cases (dig t 3) i with ⟨b, e⟩ | ⟨b, e⟩
        · rw [b] at h
          rw [if_neg (by rw [e]; simp)]
          exact ⟨l, q, len, tab, R, ht, h⟩
        · rw [b] at h
          rw [if_pos (by omega)]
          exact sim_put E R ht (mv 3 e).2 (mv 3 e).1 h
      · rw [b] at h
        rw [if_pos (by omega)]
        exact sim_put E R ht (mv 2 e).2 (mv 2 e).1 h
    · rw [b] at h
      rw [if_pos (by omega)]
      exact sim_put E R ht (mv 1 e).2 (mv 1 e).1 h
  · rw [b] at h
    rw [if_pos (by omega)]
    exact sim_put E R ht (mv 0 e).2 (mv 0 e).1 h
theorem sim_run {w f : Int} (E : EncOk w) {k : Nat → Nat → Nat → Bool} : ∀ (j n : Nat) (l : List Nat) (q len tab : Nat), n + j = 81 → RelL w l (stN f w n) q len tab → nRun j n q len tab k false = true →
    (∀ m, n ≤ m → m < 81 → m < (stN f w m).1.length) ∧ ∃ l' q' len' tab', RelL w l' (stN f w 81) q' len' tab' ∧ k q' len' tab' = true
  | 0, n, l, q, len, tab, hn, R, h => by
    have : n = 81 := by omega
    subst this
    exact ⟨fun m a b => by omega, l, q, len, tab, R, h⟩
  | j + 1, n, l, q, len, tab, hn, R, h => by
    unfold nRun at h
    cases hb : Nat.blt n len with
    | false => rw [hb] at h; cases h
    | true =>
      rw [hb] at h
      dsimp only at h
      have hlt : n < l.length := by rw [← R.ln]; exact Nat.le_of_ble_eq_true hb
      have hlen : n < (stN f w n).1.length := by rw [R.e1, List.length_map]; exact hlt
      have hg : gt 128 q n = l[n] := by rw [R.hq, List.getD_eq_getElem?_getD, List.getElem?_eq_getElem hlt]; rfl
      have hm : gt 128 q n ∈ l := by rw [hg]; exact List.getElem_mem hlt
      have hd : (stN f w n).1.getD n 0 = enc w (gt 128 q n) := by
        rw [R.e1, List.getD_eq_getElem?_getD, List.getElem?_map, List.getElem?_eq_getElem hlt, hg]; rfl
      obtain ⟨l1, q1, len1, tab1, R1, m1, h1⟩ := sim_step E R hm (by decide : 0 < 3) h
      obtain ⟨l2, q2, len2, tab2, R2, m2, h2⟩ := sim_step E R1 m1 (by decide : 1 < 3) h1
      obtain ⟨l3, q3, len3, tab3, R3, m3, h3⟩ := sim_step E R2 m2 (by decide : 2 < 3) h2
      have es : stN f w (n + 1) = wstep w (enc w (gt 128 q n)) (wstep w (enc w (gt 128 q n)) (wstep w (enc w (gt 128 q n)) (stN f w n) ((0 : Nat) : Int)) ((1 : Nat) : Int)) ((2 : Nat) : Int) := by
        show turnF w ((stN f w n).1.getD n 0) (stN f w n) = _
        rw [hd]; rfl
      rw [← es] at R3
      obtain ⟨a, b⟩ := sim_run E j (n + 1) l3 q3 len3 tab3 (by omega) R3 h3
      refine ⟨fun m x y => ?_, b⟩
      rcases Nat.lt_or_ge n m with z | z
      · exact a m z y
      · have : m = n := by omega
        subst this; exact hlen
theorem sim_all {w : Int} (E : EncOk w) {f x0 x1 x2 : Nat} (hf : f < 81) (h : wayC f x0 x1 x2 = true) :
    (∀ m, m < 81 → m < (stN (enc w f) w m).1.length) ∧ (stN (enc w f) w 81).1.length = 81 ∧ (∀ d, kdfLook (stN (enc w f) w 81).2 (enc w 0) d = (x0 : Int)) ∧ (∀ d, kdfLook (stN (enc w f) w 81).2 (enc w 40) d = (x1 : Int)) ∧ (∀ d, kdfLook (stN (enc w f) w 81).2 (enc w 80) d = (x2 : Int)) := by
  unfold wayC at h
  have z0 : ∀ B i, gt B 0 i = 0 := fun B i => by show 0 / B ^ i % B = 0; rw [Nat.zero_div, Nat.zero_mod]
  have R0 : RelL w [f] (stN (enc w f) w 0) f 1 (Nat.pow 32 f) := by
    have g1 := fun j => gt_pt (B := 32) (a := 0) (i := f) (v := 1) (j := j) (by decide) (by decide) (z0 _ _)
    have g2 := fun j => gt_pt (B := 128) (a := 0) (i := 0) (v := f) (j := j) (by decide) (by omega) (z0 _ _)
    have e1 : pt 32 0 f 1 = Nat.pow 32 f := by show 0 + 1 * 32 ^ f = 32 ^ f; rw [Nat.zero_add, Nat.one_mul]
    have e2 : pt 128 0 0 f = f := by show 0 + f * 128 ^ 0 = f; rw [Nat.zero_add, Nat.pow_zero, Nat.mul_one]
    rw [e1] at g1
    rw [e2] at g2
    refine ⟨rfl, ?_, rfl, ?_, ?_, ?_⟩
    · show [(enc w f, (0 : Int))] = [(enc w f, _)]
      rw [g1 f, if_pos rfl]; rfl
    · intro t ht; rw [List.mem_singleton.mp ht]; exact hf
    · intro n
      rw [g2 n]
      cases n with
      | zero => rfl
      | succ n => rw [if_neg (Nat.succ_ne_zero _), z0]; rfl
    · intro t ht
      rw [g1 t, List.mem_singleton]
      by_cases e : t = f
      · rw [if_pos e]; exact ⟨fun x => by omega, fun x => absurd e x⟩
      · rw [if_neg e, z0]; exact ⟨fun _ => e, fun _ => rfl⟩
  obtain ⟨a, l, q, len, tab, R, hk⟩ := sim_run E 81 0 [f] f 1 _ (by decide) R0 h
  simp only [Bool.and_eq_true] at hk
  obtain ⟨k1, k2, k3, k4⟩ := hk
  have k1 := Nat.eq_of_beq_eq_true k1
  have k2 := Nat.eq_of_beq_eq_true k2
  have k3 := Nat.eq_of_beq_eq_true k3
  have k4 := Nat.eq_of_beq_eq_true k4
  have lk : ∀ t x : Nat, t < 81 → gt 32 tab t = Nat.add x 1 → ∀ d, kdfLook (stN (enc w f) w 81).2 (enc w t) d = (x : Int) := by
    intro t x ht e d
    have e' : gt 32 tab t = x + 1 := e
    have hm : t ∈ l := by
      refine Classical.byContradiction fun hn => ?_
      have := (R.ht t ht).mpr hn
      omega
    rw [R.e2, look_rel E (g := fun t => ((gt 32 tab t : Nat) : Int) - 1) ht d R.lt hm]
    show ((gt 32 tab t : Nat) : Int) - 1 = _
    rw [e']; omega
  exact ⟨fun m hm => a m (Nat.zero_le _) hm, by rw [R.e1, List.length_map, ← R.ln]; exact k1, lk 0 x0 (by decide) k2, lk 40 x1 (by decide) k3, lk 80 x2 (by decide) k4⟩
theorem len_bnd (f w : Int) : ∀ n, (stN f w n).1.length ≤ 1 + 3 * n
  | 0 => by show 1 ≤ 1; omega
  | n + 1 => by
    have h := len_bnd f w n
    have h2 := fold_len (w := w) (t := (stN f w n).1.getD n 0) [0, 1, 2] (st := stN f w n)
    show (turnF w ((stN f w n).1.getD n 0) (stN f w n)).1.length ≤ _
    unfold turnF
    simp only [List.length_cons, List.length_nil] at h2
    omega
end Mine.P1
end
theorem Mine.Off.t41 : True := by
  w_top off
  first | (walk1; done) | trivial
section
open Mine.Nst Mine.D2i Mine.I2d Mine.I2w
open PySem PySem.W PyProof.Rows PySem.Calls PyProof.V PySem.Spec



namespace Mine.P2
noncomputable def dI (t k : Nat) : Int := ((t / 3 ^ k % 3 : Nat) : Int)
noncomputable def tI (w : Int) (t : Nat) : Int := d2iF w (dI t 0) (dI t 1) (dI t 2) (dI t 3)
noncomputable def dcI (n x : Int) : Decidable (i2dOk n x) := by unfold i2dOk; infer_instance
noncomputable def digB (w : Int) (t : Nat) : Bool :=
  decide (tI w t = dI t 0 * 2 ^ (w * 0).toNat + (dI t 1 * 2 ^ (w * 1).toNat + (dI t 2 * 2 ^ (w * 2).toNat + (dI t 3 * 2 ^ (w * 3).toNat + 0)))) &&
  (@decide (i2dOk w (tI w t)) (dcI _ _) && (decide (i2dR w (tI w t) ++ (List.replicate (4 - ((i2dR w (tI w t)).length : Int)).toNat [(0 : Int)]).flatten = [dI t 0, dI t 1, dI t 2, dI t 3]) &&
  decide (¬ List.drop ((i2dR w (tI w t)).length - 1) (i2dR w (tI w t)) = [0])))
theorem dig_2 : ∀ t : Fin 81, digB 2 t.val = true := by decide +kernel
theorem dig_3 : ∀ t : Fin 81, digB 3 t.val = true := by decide +kernel
theorem dig_4 : ∀ t : Fin 81, digB 4 t.val = true := by decide +kernel
theorem dig_5 : ∀ t : Fin 81, digB 5 t.val = true := by decide +kernel
theorem dig_all {w : Int} (h1 : 2 ≤ w) (h2 : w ≤ 5) {t : Nat} (ht : t < 81) : digB w t = true := by
  have : w = 2 ∨ w = 3 ∨ w = 4 ∨ w = 5 := by omega
  rcases this with rfl | rfl | rfl | rfl
  · exact dig_2 ⟨t, ht⟩
  · exact dig_3 ⟨t, ht⟩
  · exact dig_4 ⟨t, ht⟩
  · exact dig_5 ⟨t, ht⟩
end Mine.P2
end
theorem Mine.Off.t42 : True := by
  w_top off
  first | (walk1; done) | trivial
section
open Mine.L0 Mine.Cm Mine.F3 Mine.F5 Mine.F4 Mine.Fc Mine.F6 Mine.L4
open PySem PySem.W PyProof.Rows PySem.Calls PyProof.V PySem.Spec



namespace Mine.P3
noncomputable def mS (i : Nat) : Str := Txt.item (Str.ofString "&<>\"\r\n\t") ((i % 7 : Nat) : Int)
noncomputable def pgX (m : Str) (b : Bool) (x : Str) : Str := match b with
  | true => escF x ++ m
  | false => x
theorem pgStep_X {A B C m : Str} {d : Int} (h0 : 0 ≤ d) (h1 : d ≤ 2) : F5.pgStep [A, B, C] d m = [pgX m (decide (d = 0)) A, pgX m (decide (d = 1)) B, pgX m (decide (d = 2)) C] := by
  have : d = 0 ∨ d = 1 ∨ d = 2 := by omega
  rcases this with rfl | rfl | rfl <;> rfl
theorem pgOk_X {A B C m : Str} {d : Int} (h0 : 0 ≤ d) (h1 : d ≤ 2) (hA : escOk A m) (hB : escOk B m) (hC : escOk C m) : pgOk [A, B, C] d m := by
  have : d = 0 ∨ d = 1 ∨ d = 2 := by omega
  rcases this with rfl | rfl | rfl
  · exact hA
  · exact hB
  · exact hC
noncomputable def pgE : Str := Str.ofString ""
noncomputable def pg4 (m0 m1 m2 m3 : Str) (b0 b1 b2 b3 : Bool) : Str := pgX m3 b3 (pgX m2 b2 (pgX m1 b1 (pgX m0 b0 pgE)))
noncomputable def dcE (x mk : Str) : Decidable (escOk x mk) := by unfold escOk; infer_instance
noncomputable def bI (b : Bool) : Int := match b with
  | true => 1
  | false => 0
noncomputable def rdGood (r : Str × Int × List Int) (l : List Int) : Bool := match r with
  | (r1, _, r3) => decide (r1 = Str.ofString "") && decide (r3 = l)
noncomputable def pgChk (a : Nat) (b0 b1 b2 b3 : Bool) : Bool :=
  @decide (escOk (pgX (mS a) b0 pgE) (mS (a + 1))) (dcE _ _) && (@decide (escOk (pgX (mS (a + 1)) b1 (pgX (mS a) b0 pgE)) (mS (a + 2))) (dcE _ _) && (@decide (escOk (pgX (mS (a + 2)) b2 (pgX (mS (a + 1)) b1 (pgX (mS a) b0 pgE))) (mS (a + 3))) (dcE _ _) &&
    (decide ((pg4 (mS a) (mS (a + 1)) (mS (a + 2)) (mS (a + 3)) b0 b1 b2 b3).length ≤ 1000) &&
      rdGood (rd4 (mS a) (mS (a + 1)) (mS (a + 2)) (mS (a + 3)) 1 (pg4 (mS a) (mS (a + 1)) (mS (a + 2)) (mS (a + 3)) b0 b1 b2 b3) [0, 0, 0, 0]) [bI b0, bI b1, bI b2, bI b3])))
theorem chk0 : ∀ b0 b1 b2 b3 : Bool, pgChk 0 b0 b1 b2 b3 = true := by decide +kernel
theorem chk1 : ∀ b0 b1 b2 b3 : Bool, pgChk 1 b0 b1 b2 b3 = true := by decide +kernel
theorem chk2 : ∀ b0 b1 b2 b3 : Bool, pgChk 2 b0 b1 b2 b3 = true := by decide +kernel
theorem chk3 : ∀ b0 b1 b2 b3 : Bool, pgChk 3 b0 b1 b2 b3 = true := by decide +kernel
theorem chk4 : ∀ b0 b1 b2 b3 : Bool, pgChk 4 b0 b1 b2 b3 = true := by decide +kernel
theorem chk5 : ∀ b0 b1 b2 b3 : Bool, pgChk 5 b0 b1 b2 b3 = true := by decide +kernel
theorem chk6 : ∀ b0 b1 b2 b3 : Bool, pgChk 6 b0 b1 b2 b3 = true := by decide +kernel
theorem chk (a : Nat) (ha : a < 7) (b0 b1 b2 b3 : Bool) : pgChk a b0 b1 b2 b3 = true := by
  have : a = 0 ∨ a = 1 ∨ a = 2 ∨ a = 3 ∨ a = 4 ∨ a = 5 ∨ a = 6 := by omega
  rcases this with rfl | rfl | rfl | rfl | rfl | rfl | rfl
  · exact chk0 b0 b1 b2 b3
  · exact chk1 b0 b1 b2 b3
  · exact chk2 b0 b1 b2 b3
  · exact chk3 b0 b1 b2 b3
  · exact chk4 b0 b1 b2 b3
  · exact chk5 b0 b1 b2 b3
  · exact chk6 b0 b1 b2 b3
noncomputable def sel (peg x n : Int) : Int := if x = 1 then peg else n
noncomputable def RdRel (peg n0 n1 n2 n3 : Int) (r r' : Str × Int × List Int) : Prop := r.1 = r'.1 ∧ r.2.1 = r'.2.1 ∧ ∃ a b c d, r'.2.2 = [a, b, c, d] ∧ r.2.2 = [sel peg a n0, sel peg b n1, sel peg c n2, sel peg d n3]
theorem rdRel_step {peg n0 n1 n2 n3 : Int} {r r' : Str × Int × List Int} {sp : Str} {i : Int} (hi : i = 0 ∨ i = 1 ∨ i = 2 ∨ i = 3) (h : RdRel peg n0 n1 n2 n3 r r') : RdRel peg n0 n1 n2 n3 (rdStep sp i peg r) (rdStep sp i 1 r') := by
  obtain ⟨h1, h2, a, b, c, d, h3, h4⟩ := h
  unfold rdStep
  rw [h1]
  by_cases q : rdC r'.1 sp = true
  · rw [if_pos q, if_pos q]
    refine ⟨rfl, by show r.2.1 + 1 = r'.2.1 + 1; rw [h2], ?_⟩
    show ∃ a b c d, (r'.2.2).set _ 1 = _ ∧ (r.2.2).set _ peg = _
    rw [h3, h4]
    rcases hi with rfl | rfl | rfl | rfl
    · exact ⟨1, b, c, d, rfl, rfl⟩
    · exact ⟨a, 1, c, d, rfl, rfl⟩
    · exact ⟨a, b, 1, d, rfl, rfl⟩
    · exact ⟨a, b, c, 1, rfl, rfl⟩
  · rw [if_neg q, if_neg q]
    exact ⟨h1, h2, a, b, c, d, h3, h4⟩
theorem rdRel_4 {m0 m1 m2 m3 page : Str} {peg n0 n1 n2 n3 : Int} : RdRel peg n0 n1 n2 n3 (rd4 m0 m1 m2 m3 peg page [n0, n1, n2, n3]) (rd4 m0 m1 m2 m3 1 page [0, 0, 0, 0]) := by
  have e0 : RdRel peg n0 n1 n2 n3 (page, (0 : Int), [n0, n1, n2, n3]) (page, (0 : Int), [0, 0, 0, 0]) := ⟨rfl, rfl, 0, 0, 0, 0, rfl, rfl⟩
  have e3 := rdRel_step (sp := spF m3 0) (i := 3) (by decide) e0
  unfold rd4
  dsimp only
  have e2 := rdRel_step (sp := spF m2 (rdStep (spF m3 0) 3 peg (page, 0, [n0, n1, n2, n3])).2.1) (i := 2) (by decide) e3
  rw [show (rdStep (spF m3 0) 3 1 (page, 0, [0, 0, 0, 0])).2.1 = (rdStep (spF m3 0) 3 peg (page, 0, [n0, n1, n2, n3])).2.1 from e3.2.1.symm]
  have e1 := rdRel_step (sp := spF m1 (rdStep (spF m2 (rdStep (spF m3 0) 3 peg (page, 0, [n0, n1, n2, n3])).2.1) 2 peg (rdStep (spF m3 0) 3 peg (page, 0, [n0, n1, n2, n3]))).2.1) (i := 1) (by decide) e2
  rw [e2.2.1.symm]
  have e0' := rdRel_step (sp := spF m0 (rdStep (spF m1 (rdStep (spF m2 (rdStep (spF m3 0) 3 peg (page, 0, [n0, n1, n2, n3])).2.1) 2 peg (rdStep (spF m3 0) 3 peg (page, 0, [n0, n1, n2, n3]))).2.1) 1 peg (rdStep (spF m2 (rdStep (spF m3 0) 3 peg (page, 0, [n0, n1, n2, n3])).2.1) 2 peg (rdStep (spF m3 0) 3 peg (page, 0, [n0, n1, n2, n3])))).2.1) (i := 0) (by decide) e1
  rw [e1.2.1.symm]
  exact e0'
structure PgF (a : Nat) (b0 b1 b2 b3 : Bool) : Prop where
  o1 : escOk (pgX (mS a) b0 pgE) (mS (a + 1))
  o2 : escOk (pgX (mS (a + 1)) b1 (pgX (mS a) b0 pgE)) (mS (a + 2))
  o3 : escOk (pgX (mS (a + 2)) b2 (pgX (mS (a + 1)) b1 (pgX (mS a) b0 pgE))) (mS (a + 3))
  le : (pg4 (mS a) (mS (a + 1)) (mS (a + 2)) (mS (a + 3)) b0 b1 b2 b3).length ≤ 1000
  rd : ∀ peg n0 n1 n2 n3 : Int, ∃ dep, rd4 (mS a) (mS (a + 1)) (mS (a + 2)) (mS (a + 3)) peg (pg4 (mS a) (mS (a + 1)) (mS (a + 2)) (mS (a + 3)) b0 b1 b2 b3) [n0, n1, n2, n3] = (Str.ofString "", dep, [sel peg (bI b0) n0, sel peg (bI b1) n1, sel peg (bI b2) n2, sel peg (bI b3) n3])
theorem pgF (a : Nat) (ha : a < 7) (b0 b1 b2 b3 : Bool) : PgF a b0 b1 b2 b3 := by
  have h := chk a ha b0 b1 b2 b3
  unfold pgChk at h
  simp only [Bool.and_eq_true, decide_eq_true_eq] at h
  obtain ⟨h1, h2, h3, h4, h5⟩ := h
  refine ⟨h1, h2, h3, h4, fun peg n0 n1 n2 n3 => ?_⟩
  have R := rdRel_4 (m0 := mS a) (m1 := mS (a + 1)) (m2 := mS (a + 2)) (m3 := mS (a + 3)) (page := pg4 (mS a) (mS (a + 1)) (mS (a + 2)) (mS (a + 3)) b0 b1 b2 b3) (peg := peg) (n0 := n0) (n1 := n1) (n2 := n2) (n3 := n3)
  generalize rd4 (mS a) (mS (a + 1)) (mS (a + 2)) (mS (a + 3)) 1 (pg4 (mS a) (mS (a + 1)) (mS (a + 2)) (mS (a + 3)) b0 b1 b2 b3) [0, 0, 0, 0] = r' at h5 R
  generalize rd4 (mS a) (mS (a + 1)) (mS (a + 2)) (mS (a + 3)) peg (pg4 (mS a) (mS (a + 1)) (mS (a + 2)) (mS (a + 3)) b0 b1 b2 b3) [n0, n1, n2, n3] = r at R ⊢
  obtain ⟨r1, r2, r3⟩ := r
  obtain ⟨s1, s2, s3⟩ := r'
  obtain ⟨e1, e2, x, y, z, v, e3, e4⟩ := R
  dsimp only at e1 e2 e3 e4
  unfold rdGood at h5
  simp only [Bool.and_eq_true, decide_eq_true_eq] at h5
  obtain ⟨h5, h6⟩ := h5
  rw [h6] at e3
  simp only [List.cons.injEq, and_true] at e3
  obtain ⟨rfl, rfl, rfl, rfl⟩ := e3
  exact ⟨r2, by rw [e1, h5, e4]⟩
theorem escOk0 : ∀ i : Fin 7, escOk pgE (mS i.val) := by unfold escOk; decide +kernel
theorem mS_mod (i : Nat) : mS i = mS (i % 7) := by unfold mS; rw [Nat.mod_mod]
theorem escOk_E (i : Nat) : escOk pgE (mS i) := by
  rw [mS_mod]; exact escOk0 ⟨i % 7, Nat.mod_lt _ (by decide)⟩
noncomputable def dcM (m : Str) : Decidable (mkOk m) := by unfold mkOk; infer_instance
theorem mkOk0 : ∀ i : Fin 7, mkOk (mS i.val) := by unfold mkOk; decide +kernel
theorem mkOk_E (i : Nat) : mkOk (mS i) := by
  rw [mS_mod]; exact mkOk0 ⟨i % 7, Nat.mod_lt _ (by decide)⟩
theorem pages_plain (a : Nat) (ha : a < 7) {d0 d1 d2 d3 : Int} (h00 : 0 ≤ d0) (h01 : d0 ≤ 2) (h10 : 0 ≤ d1) (h11 : d1 ≤ 2) (h20 : 0 ≤ d2) (h21 : d2 ≤ 2) (h30 : 0 ≤ d3) (h31 : d3 ≤ 2) :
    ∃ p0 p1 p2, PgPre d0 d1 d2 d3 (mS a) (mS (a + 1)) (mS (a + 2)) (mS (a + 3)) p0 p1 p2 ∧ RdPre d0 d1 d2 d3 (mS a) (mS (a + 1)) (mS (a + 2)) (mS (a + 3)) p0 p1 p2 := by
  have A := pgF a ha (decide (d0 = 0)) (decide (d1 = 0)) (decide (d2 = 0)) (decide (d3 = 0))
  have B := pgF a ha (decide (d0 = 1)) (decide (d1 = 1)) (decide (d2 = 1)) (decide (d3 = 1))
  have C := pgF a ha (decide (d0 = 2)) (decide (d1 = 2)) (decide (d2 = 2)) (decide (d3 = 2))
  have s1 : F5.pgStep pg0 d0 (mS a) = _ := pgStep_X (A := pgE) (B := pgE) (C := pgE) h00 h01
  have s2 := fun A B C => pgStep_X (A := A) (B := B) (C := C) (m := mS (a + 1)) h10 h11
  have s3 := fun A B C => pgStep_X (A := A) (B := B) (C := C) (m := mS (a + 2)) h20 h21
  have s4 := fun A B C => pgStep_X (A := A) (B := B) (C := C) (m := mS (a + 3)) h30 h31
  refine ⟨_, _, _, ⟨pgOk_X (A := pgE) (B := pgE) (C := pgE) h00 h01 (escOk_E a) (escOk_E a) (escOk_E a), ?_, ?_, ?_, by rw [s1, s2, s3, s4]; rfl⟩, ⟨mkOk_E _, mkOk_E _, mkOk_E _, mkOk_E _⟩, ⟨A.le, B.le, C.le⟩, ?_⟩
  · rw [s1]; exact pgOk_X h10 h11 A.o1 B.o1 C.o1
  · rw [s1, s2]; exact pgOk_X h20 h21 A.o2 B.o2 C.o2
  · rw [s1, s2, s3]; exact pgOk_X h30 h31 A.o3 B.o3 C.o3
  · obtain ⟨x0, e0⟩ := A.rd (0 + ((0 : Nat) : Int)) 3 3 3 3
    have nE : ¬ ((Str.ofString "" != Str.ofString "") = true) := by decide
    unfold readF
    rw [e0]
    dsimp only
    rw [if_neg nE]
    obtain ⟨x1, e1⟩ := B.rd (0 + ((0 + 1 : Nat) : Int)) (sel (0 + ((0 : Nat) : Int)) (bI (decide (d0 = 0))) 3) (sel (0 + ((0 : Nat) : Int)) (bI (decide (d1 = 0))) 3) (sel (0 + ((0 : Nat) : Int)) (bI (decide (d2 = 0))) 3) (sel (0 + ((0 : Nat) : Int)) (bI (decide (d3 = 0))) 3)
    (try dsimp only)
    rw [e1]
    dsimp only
    rw [if_neg nE]
    obtain ⟨x2, e2⟩ := C.rd (0 + ((0 + 1 + 1 : Nat) : Int)) (sel (0 + ((0 + 1 : Nat) : Int)) (bI (decide (d0 = 1))) (sel (0 + ((0 : Nat) : Int)) (bI (decide (d0 = 0))) 3)) (sel (0 + ((0 + 1 : Nat) : Int)) (bI (decide (d1 = 1))) (sel (0 + ((0 : Nat) : Int)) (bI (decide (d1 = 0))) 3)) (sel (0 + ((0 + 1 : Nat) : Int)) (bI (decide (d2 = 1))) (sel (0 + ((0 : Nat) : Int)) (bI (decide (d2 = 0))) 3)) (sel (0 + ((0 + 1 : Nat) : Int)) (bI (decide (d3 = 1))) (sel (0 + ((0 : Nat) : Int)) (bI (decide (d3 = 0))) 3))
    (try dsimp only)
    rw [e2]
    dsimp only
    rw [if_neg nE]
    have v : ∀ d : Int, 0 ≤ d → d ≤ 2 → sel (0 + ((0 + 1 + 1 : Nat) : Int)) (bI (decide (d = 2))) (sel (0 + ((0 + 1 : Nat) : Int)) (bI (decide (d = 1))) (sel (0 + ((0 : Nat) : Int)) (bI (decide (d = 0))) 3)) = d := by
      intro d q0 q1
      have : d = 0 ∨ d = 1 ∨ d = 2 := by omega
      rcases this with rfl | rfl | rfl <;> decide
    rw [v d0 h00 h01, v d1 h10 h11, v d2 h20 h21, v d3 h30 h31]
end Mine.P3
end
theorem Mine.Off.t43 : True := by
  w_top off
  first | (walk1; done) | trivial
section
open Mine.L0 Mine.Cm Mine.L12 Mine.F2 Mine.Hi Mine.Ct Mine.L14 Mine.F1 Mine.L13 Mine.Fs Mine.L16 Mine.Fq Mine.L17 Mine.Nst Mine.I2d Mine.I2w Mine.Fz Mine.Fc Mine.F8 Mine.L18
open PySem PySem.W PyProof.Rows PySem.Calls PyProof.V PySem.Spec



namespace Mine.P4
noncomputable def dN (t k : Nat) : Nat := t / 3 ^ k % 3
/-- the fewest moves of tower t to the three pegs -/
noncomputable def xTab : List (Nat × Nat × Nat) := [(0, 15, 15), (1, 15, 14), (1, 14, 15), (3, 13, 14), (3, 12, 15), (2, 13, 15), (3, 14, 13), (2, 15, 13), (3, 15, 12), (7, 12, 11), (6, 13, 11), (7, 13, 10), (6, 15, 9), (7, 15, 8), (7, 14, 9), (5, 15, 10), (5, 14, 11), (4, 15, 11), (7, 11, 12), (7, 10, 13), (6, 11, 13), (5, 10, 15), (4, 11, 15), (5, 11, 14), (6, 9, 15), (7, 9, 14), (7, 8, 15), (15, 7, 8), (15, 6, 9), (14, 7, 9), (13, 6, 11), (12, 7, 11), (13, 7, 10), (14, 5, 11), (15, 5, 10), (15, 4, 11), (12, 3, 15), (13, 3, 14), (13, 2, 15), (15, 1, 14), (15, 0, 15), (14, 1, 15), (15, 2, 13), (14, 3, 13), (15, 3, 12), (11, 4, 15), (10, 5, 15), (11, 5, 14), (10, 7, 13), (11, 7, 12), (11, 6, 13), (9, 7, 14), (9, 6, 15), (8, 7, 15), (15, 8, 7), (14, 9, 7), (15, 9, 6), (14, 11, 5), (15, 11, 4), (15, 10, 5), (13, 11, 6), (13, 10, 7), (12, 11, 7), (11, 15, 4), (11, 14, 5), (10, 15, 5), (9, 14, 7), (8, 15, 7), (9, 15, 6), (10, 13, 7), (11, 13, 6), (11, 12, 7), (12, 15, 3), (13, 15, 2), (13, 14, 3), (15, 13, 2), (15, 12, 3), (14, 13, 3), (15, 14, 1), (14, 15, 1), (15, 15, 0)]
noncomputable def xT (t : Nat) : Nat × Nat × Nat := xTab.getD t (0, 0, 0)
noncomputable def dcR (a b : UInt64) : Decidable (rgbOk a b) := by unfold rgbOk; infer_instance
noncomputable def dcP (a b c : Int) : Decidable (pkO a b c) := by unfold pkO; infer_instance
noncomputable def dcI (n x : Int) : Decidable (i2dOk n x) := by unfold i2dOk; infer_instance
noncomputable def rgbX (x0 x1 x2 : Int) : UInt64 × UInt64 × UInt64 := rgbG (mxF (mxF (lightF x0) (lightF x1)) (lightF x2)) (mnF (mnF (lightF x0) (lightF x1)) (lightF x2)) (lightF x0) (lightF x1) (lightF x2)
noncomputable def hlsX (r : UInt64 × UInt64 × UInt64) : UInt64 × UInt64 × UInt64 := hlsF r.1 r.2.1 r.2.2
noncomputable def chkF (x0 x1 x2 : Int) : Bool := @decide (rgbOk (mxF (mxF (lightF x0) (lightF x1)) (lightF x2)) (mnF (mnF (lightF x0) (lightF x1)) (lightF x2))) (dcR _ _)
noncomputable def chkH (x0 x1 x2 : Int) (h : UInt64 × UInt64 × UInt64) : Bool := decide (partI h.1 = x0) && (decide (partI h.2.1 = x1) && (decide (partI h.2.2 = x2) &&
  (Float64.isFinite (Float64.add (Float64.mul (Float64.ofInt 16) h.1) 4602678819172646912) && (Float64.isFinite (Float64.add (Float64.mul (Float64.ofInt 16) h.2.1) 4602678819172646912) && Float64.isFinite (Float64.add (Float64.mul (Float64.ofInt 16) h.2.2) 4602678819172646912)))))
noncomputable def chkG (g : UInt64) : Bool := Float64.cmp (mnF (mnF g g) g) (mxF (mxF g g) g) == some .eq && decide (Float64.div (Float64.add (mxF (mxF g g) g) (mnF (mnF g g) g)) 4611686018427387904 = 4603804719079489536)
noncomputable def chkL (x : Int) : Bool := decide (PySem.Flt.toInt Float64.truncOf (Float64.mul (Float64.ofInt 16) (lightF x)) = x) && (Float64.isFinite (Float64.mul (Float64.ofInt 16) (lightF x)) && decide (0 ≤ x ∧ x ≤ 16))
noncomputable def chkP (x0 x1 x2 : Int) (l : List Int) : Bool := (@decide (pkO ((spS x0).getD 0 0) ((spS x1).getD 0 0) ((spS x2).getD 0 0)) (dcP _ _ _) && (@decide (pkO ((spS x0).getD 1 0) ((spS x1).getD 1 0) ((spS x2).getD 1 0)) (dcP _ _ _) && (@decide (pkO ((spS x0).getD 2 0) ((spS x1).getD 2 0) ((spS x2).getD 2 0)) (dcP _ _ _) && @decide (pkO ((spS x0).getD 3 0) ((spS x1).getD 3 0) ((spS x2).getD 3 0)) (dcP _ _ _)))) &&
  (@decide (i2dOk 1 (15 - x0)) (dcI _ _) && (@decide (i2dOk 1 (15 - x1)) (dcI _ _) && (@decide (i2dOk 1 (15 - x2)) (dcI _ _) && decide ((pkN (spS x0) (spS x1) 4).2 = l))))
noncomputable def chkX (x0 x1 x2 : Int) (l : List Int) : Bool := chkF x0 x1 x2 && (chkH x0 x1 x2 (hlsX (rgbX x0 x1 x2)) && (chkG (greyF (lightF x0) (lightF x1) (lightF x2)) && ((chkL x0 && (chkL x1 && chkL x2)) && chkP x0 x1 x2 l)))
noncomputable def chkT (t : Nat) : Bool := chkX ((xT t).1 : Nat) ((xT t).2.1 : Nat) ((xT t).2.2 : Nat) [((dN t 0 : Nat) : Int), ((dN t 1 : Nat) : Int), ((dN t 2 : Nat) : Int), ((dN t 3 : Nat) : Int)]
theorem chkT0 : ∀ i : Fin 9, chkT (0 + i.val) = true := by decide +kernel
theorem chkT1 : ∀ i : Fin 9, chkT (9 + i.val) = true := by decide +kernel
theorem chkT2 : ∀ i : Fin 9, chkT (18 + i.val) = true := by decide +kernel
theorem chkT3 : ∀ i : Fin 9, chkT (27 + i.val) = true := by decide +kernel
theorem chkT4 : ∀ i : Fin 9, chkT (36 + i.val) = true := by decide +kernel
theorem chkT5 : ∀ i : Fin 9, chkT (45 + i.val) = true := by decide +kernel
theorem chkT6 : ∀ i : Fin 9, chkT (54 + i.val) = true := by decide +kernel
theorem chkT7 : ∀ i : Fin 9, chkT (63 + i.val) = true := by decide +kernel
theorem chkT8 : ∀ i : Fin 9, chkT (72 + i.val) = true := by decide +kernel
theorem chkT_all (t : Nat) (h : t < 81) : chkT t = true := by
  have e : t = 9 * (t / 9) + t % 9 := (Nat.div_add_mod t 9).symm
  have hm : t % 9 < 9 := Nat.mod_lt _ (by decide)
  have hd : t / 9 = 0 ∨ t / 9 = 1 ∨ t / 9 = 2 ∨ t / 9 = 3 ∨ t / 9 = 4 ∨ t / 9 = 5 ∨ t / 9 = 6 ∨ t / 9 = 7 ∨ t / 9 = 8 := by omega
  rcases hd with q | q | q | q | q | q | q | q | q <;> rw [q] at e
  · rw [e]; exact chkT0 ⟨t % 9, hm⟩
  · rw [e]; exact chkT1 ⟨t % 9, hm⟩
  · rw [e]; exact chkT2 ⟨t % 9, hm⟩
  · rw [e]; exact chkT3 ⟨t % 9, hm⟩
  · rw [e]; exact chkT4 ⟨t % 9, hm⟩
  · rw [e]; exact chkT5 ⟨t % 9, hm⟩
  · rw [e]; exact chkT6 ⟨t % 9, hm⟩
  · rw [e]; exact chkT7 ⟨t % 9, hm⟩
  · rw [e]; exact chkT8 ⟨t % 9, hm⟩
structure XF (x0 x1 x2 : Int) (l : List Int) (hx hy hz a b c : UInt64) : Prop where
  rg : rgbOk (mxF (mxF (lightF x0) (lightF x1)) (lightF x2)) (mnF (mnF (lightF x0) (lightF x1)) (lightF x2))
  rv : rgbG (mxF (mxF (lightF x0) (lightF x1)) (lightF x2)) (mnF (mnF (lightF x0) (lightF x1)) (lightF x2)) (lightF x0) (lightF x1) (lightF x2) = (hx, hy, hz)
  hv : hlsF hx hy hz = (a, b, c)
  pa : partI a = x0
  pb : partI b = x1
  pc : partI c = x2
  c0 : Float64.isFinite (Float64.add (Float64.mul (Float64.ofInt 16) a) 4602678819172646912) = true
  c1 : Float64.isFinite (Float64.add (Float64.mul (Float64.ofInt 16) b) 4602678819172646912) = true
  c2 : Float64.isFinite (Float64.add (Float64.mul (Float64.ofInt 16) c) 4602678819172646912) = true
  gr : chkG (greyF (lightF x0) (lightF x1) (lightF x2)) = true
  la : chkL x0 = true
  lb : chkL x1 = true
  lc : chkL x2 = true
  pp : chkP x0 x1 x2 l = true
theorem xF_of {x0 x1 x2 : Int} {l : List Int} (h : chkX x0 x1 x2 l = true) : ∃ hx hy hz a b c, XF x0 x1 x2 l hx hy hz a b c := by
  unfold chkX chkH chkF at h
  simp only [Bool.and_eq_true, decide_eq_true_eq] at h
  obtain ⟨h1, ⟨h2, h3, h4, h5, h6, h7⟩, h8, ⟨h9, h10, h11⟩, h12⟩ := h
  exact ⟨(rgbX x0 x1 x2).1, (rgbX x0 x1 x2).2.1, (rgbX x0 x1 x2).2.2, (hlsX (rgbX x0 x1 x2)).1, (hlsX (rgbX x0 x1 x2)).2.1, (hlsX (rgbX x0 x1 x2)).2.2, ⟨h1, rfl, rfl, h2, h3, h4, h5, h6, h7, h8, h9, h10, h11, h12⟩⟩

end Mine.P4
end
end
theorem Mine.Off.t44 : True := by
  w_top off
  first | (walk1; done) | trivial
section
open Mine.Ways0 Mine.P1 Mine.Nst Mine.D2i Mine.I2d Mine.I2w Mine.P2 Mine.L0 Mine.Cm Mine.F3 Mine.F5 Mine.F4 Mine.Fc Mine.F6 Mine.L4 Mine.P3 Mine.L12 Mine.F2 Mine.Hi Mine.Ct Mine.L14 Mine.F1 Mine.L13 Mine.Fs Mine.L16 Mine.Fq Mine.L17 Mine.Fz Mine.F8 Mine.L18 Mine.P4 Mine.L5 Mine.L6 Mine.L7 Mine.L8 Mine.L9 Mine.F7 Mine.L10 Mine.L11 Mine.L15 Mine.Lr
open PySem PySem.W PyProof.Rows PySem.Calls PyProof.V PySem.Spec



namespace Mine.P7
noncomputable def wayT (t : Nat) : Bool := wayC t (xT t).1 (xT t).2.1 (xT t).2.2
theorem wayT0 : ∀ i : Fin 27, wayT (0 + i.val) = true := by decide +kernel
theorem wayT1 : ∀ i : Fin 27, wayT (27 + i.val) = true := by decide +kernel
theorem wayT2 : ∀ i : Fin 27, wayT (54 + i.val) = true := by decide +kernel
theorem wayT_all (t : Nat) (h : t < 81) : wayT t = true := by
  have e : t = 27 * (t / 27) + t % 27 := (Nat.div_add_mod t 27).symm
  have hm : t % 27 < 27 := Nat.mod_lt _ (by decide)
  have hd : t / 27 = 0 ∨ t / 27 = 1 ∨ t / 27 = 2 := by omega
  rcases hd with q | q | q <;> rw [q] at e
  · rw [e]; exact wayT0 ⟨t % 27, hm⟩
  · rw [e]; exact wayT1 ⟨t % 27, hm⟩
  · rw [e]; exact wayT2 ⟨t % 27, hm⟩
theorem enc_ones {w : Int} (h1 : 2 ≤ w) (h2 : w ≤ 5) : 0 * d2iF w 1 1 1 1 = enc w 0 ∧ 1 * d2iF w 1 1 1 1 = enc w 40 ∧ 2 * d2iF w 1 1 1 1 = enc w 80 := by
  have : w = 2 ∨ w = 3 ∨ w = 4 ∨ w = 5 := by omega
  rcases this with rfl | rfl | rfl | rfl <;> decide +kernel
theorem zz0 : (Float64.cmp 0 0 == some .eq) = true := by decide +kernel
theorem zz1 : (Float64.cmp 4603804719079489536 4603804719079489536 == some .eq) = true := by decide +kernel
theorem facts_t {W : Int} (hW1 : 2 ≤ W) (hW2 : W ≤ 5) {t a : Nat} (ht : t < 81) (ha : a < 7) :
    ∃ x0 x1 x2 hx hy hz fa fb fc p0 p1 p2, Facts W (dI t 0) (dI t 1) (dI t 2) (dI t 3) x0 x1 x2 hx hy hz fa fb fc (mS a) (mS (a + 1)) (mS (a + 2)) (mS (a + 3)) p0 p1 p2 := by
  have hb : ∀ k, 0 ≤ dI t k ∧ dI t k ≤ 2 := fun k => by
    have : t / 3 ^ k % 3 < 3 := Nat.mod_lt _ (by decide)
    unfold dI
    omega
  obtain ⟨p0, p1, p2, hp, hr⟩ := pages_plain a ha (hb 0).1 (hb 0).2 (hb 1).1 (hb 1).2 (hb 2).1 (hb 2).2 (hb 3).1 (hb 3).2
  have hd := dig_all hW1 hW2 ht
  unfold digB at hd
  simp only [Bool.and_eq_true, decide_eq_true_eq] at hd
  obtain ⟨hd1, hd2, hd3, hd4⟩ := hd
  obtain ⟨s1, s2, s3, s4, s5⟩ := sim_all (encOk hW1 hW2) ht (wayT_all t ht)
  obtain ⟨o0, o1, o2⟩ := enc_ones hW1 hW2
  have hc := chkT_all t ht
  unfold chkT at hc
  obtain ⟨hx, hy, hz, fa, fb, fc, XX⟩ := xF_of hc
  have la := XX.la
  have lb := XX.lb
  have lc := XX.lc
  have gr := XX.gr
  have pp := XX.pp
  unfold chkL at la lb lc
  unfold chkG at gr
  unfold chkP at pp
  simp only [Bool.and_eq_true, decide_eq_true_eq] at la lb lc gr pp
  obtain ⟨⟨n0, n1, n2, n3⟩, n4, n5, n6, n7⟩ := pp
  refine ⟨_, _, _, hx, hy, hz, fa, fb, fc, p0, p1, p2, ⟨⟨hb 0, hb 1, hb 2, hb 3⟩, ⟨hW1, hW2⟩, hp, hr, hd1, hd2, hd3, hd4, s1, fun n hn => Nat.le_trans (len_bnd _ _ n) (by omega), s2, by rw [o0]; exact s3 16, by rw [o1]; exact s4 16, by rw [o2]; exact s5 16, la.2.2, lb.2.2, lc.2.2, XX.rg, XX.rv, XX.hv, XX.c0, XX.c1, XX.c2, la.2.1, lb.2.1, lc.2.1, ?_, gr.1, gr.2, zz0, zz1, ?_, ?_, ?_, ?_, ?_⟩⟩
  · rw [XX.pa, XX.pb, XX.pc, la.1, lb.1, lc.1]
  · rw [XX.pa, XX.pb, XX.pc]
    intro d hd
    have : d = 0 ∨ d = 1 ∨ d = 2 ∨ d = 3 := by omega
    rcases this with rfl | rfl | rfl | rfl
    · exact n0
    · exact n1
    · exact n2
    · exact n3
  · rw [XX.pa]; exact n4
  · rw [XX.pb]; exact n5
  · rw [XX.pc]; exact n6
  · rw [XX.pa, XX.pb]; exact n7
theorem facts_all {W : Int} (hW1 : 2 ≤ W) (hW2 : W ≤ 5) {a : Nat} (ha : a < 7) {d0 d1 d2 d3 : Int} (h0 : 0 ≤ d0 ∧ d0 ≤ 2) (h1 : 0 ≤ d1 ∧ d1 ≤ 2) (h2 : 0 ≤ d2 ∧ d2 ≤ 2) (h3 : 0 ≤ d3 ∧ d3 ≤ 2) :
    ∃ x0 x1 x2 hx hy hz fa fb fc p0 p1 p2, Facts W d0 d1 d2 d3 x0 x1 x2 hx hy hz fa fb fc (mS a) (mS (a + 1)) (mS (a + 2)) (mS (a + 3)) p0 p1 p2 := by
  have F := facts_t hW1 hW2 (t := (d0 + 3 * d1 + 9 * d2 + 27 * d3).toNat) (by omega) ha
  have e0 : dI (d0 + 3 * d1 + 9 * d2 + 27 * d3).toNat 0 = d0 := by
    show (((d0 + 3 * d1 + 9 * d2 + 27 * d3).toNat / 1 % 3 : Nat) : Int) = d0; omega
  have e1 : dI (d0 + 3 * d1 + 9 * d2 + 27 * d3).toNat 1 = d1 := by
    show (((d0 + 3 * d1 + 9 * d2 + 27 * d3).toNat / 3 % 3 : Nat) : Int) = d1; omega
  have e2 : dI (d0 + 3 * d1 + 9 * d2 + 27 * d3).toNat 2 = d2 := by
    show (((d0 + 3 * d1 + 9 * d2 + 27 * d3).toNat / 9 % 3 : Nat) : Int) = d2; omega
  have e3 : dI (d0 + 3 * d1 + 9 * d2 + 27 * d3).toNat 3 = d3 := by
    show (((d0 + 3 * d1 + 9 * d2 + 27 * d3).toNat / 27 % 3 : Nat) : Int) = d3; omega
  rw [e0, e1, e2, e3] at F
  exact F
end Mine.P7
end
theorem Mine.Off.t45 : True := by
  w_top off
  first | (walk1; done) | trivial
section
open Mine.Hi Mine.Fe Mine.Fe2 Mine.Cm Mine.L0 Mine.F3 Mine.F5 Mine.F4 Mine.Fc Mine.F6 Mine.L4 Mine.L5 Mine.Nst Mine.D2i Mine.L6 Mine.L7 Mine.I2d Mine.I2w Mine.L8 Mine.L9 Mine.Ways0 Mine.F7 Mine.L10 Mine.L11 Mine.L12 Mine.F1 Mine.L13 Mine.F2 Mine.Ct Mine.L14 Mine.L15 Mine.Fs Mine.L16 Mine.Fq Mine.L17 Mine.Fz Mine.F8 Mine.L18 Mine.Lr Mine.P1 Mine.P2 Mine.P3 Mine.P4 Mine.P7
open PySem PySem.W PyProof.Rows PySem.Calls PyProof.V PySem.Spec



namespace Mine.F9
noncomputable def dR (y : Value) : Prop := ∃ (n : Int) (t : Tok), y = .int n t ∧ 0 ≤ n ∧ n ≤ 2
section
variable {w : World} {prog : Program} {A : Around} {E : Value → Shared → Prop} {s : Shared} {h₀ : Heap} {L : Addr} {m : Str → Option Value} {news : List (Addr × Obj)}
theorem slice3_ints {value slice : PySem.Expr} {l : Addr} {vs : List Value} {ns : List Int} {vl vu vk : Value} {lo hi st : Option Int} {ops : List Value} {Q : Value → Shared → Prop}
    (F : Fr h₀ L s.heap m) (N : News h₀ L s.heap news) (hl : s.heap.IsList l vs.toArray) (hi' : IntsAre vs ns) (pl : IsPart vl lo) (pu : IsPart vu hi) (pk : IsPart vk st) (h0 : st ≠ some 0)
    (h : ∀ h' D ws, Fr h₀ L h' m → News h₀ L h' ((D, listOf (List.toArray ws) 0) :: news) → IntsAre ws (pickNums ns lo hi st) → (∀ p ∈ news, p.1 < D) → Q (.ref D) { s with heap := h' })
    (hs : subscripted slice false (.ref l) (.ref s.heap.objs.size) = operate ops (getItem (.ref l) (.ref s.heap.objs.size)) := by with_unfolding_all rfl)
    (ht : ∀ r, letTemporaryGo value (.ref l) r = pure () := by intro _; with_unfolding_all rfl)
    (hsz : vs.toArray.size ≤ sizeLine := by size_fits) :
    wpAny (model prog w) A (subscriptTail value slice (.ref l) (.ref s.heap.objs.size)) Q E { s with heap := s.heap.push { cls := .type "slice", data := .fields #[vl, vu, vk] } } := by
  refine slice_list3 F N hl pl pu pk h0 (fun h' F' N' => ?_) hs ht hsz
  have e : slicePick vs.toArray lo hi st = List.toArray (slicePick vs.toArray lo hi st).toList := by simp
  rw [e] at N'
  exact h h' _ _ F' N' (hi'.pick lo hi st) fun p hp => Nat.lt_succ_of_lt (Heap.lt_size (N p hp).1)
end
theorem dR_mk {n : Int} {t : Tok} : dR (.int (n.fmod 3) t) := ⟨_, _, rfl, Int.fmod_nonneg_of_pos _ (by decide), by have := Int.fmod_lt_of_pos n (b := 3) (by decide); omega⟩
theorem en_end {h₀ : Heap} {L : Addr} {m : Str → Option Value} {s : Shared} {h : Heap} {tk : Nat} {all want : List (Addr × Obj)} {P : Value → Prop} {y : Value} (F : Fr h₀ L h m) (N : News h₀ L h all) (hs : ∀ p ∈ want, p ∈ all) (hP : P y) : EnEnd h₀ L m s want P y { s with heap := h, toks := tk } := ⟨h, tk, rfl, F, fun p hp => N p (hs p hp), hP⟩
theorem ys4 {n : Nat} {ys : List Value} (hyl : ys.length = n) (hok : EnOk (fun _ y => dR y) ys) (hn : n = 4 := by rfl) : ∃ d0 d1 d2 d3 u0 u1 u2 u3, ys = [.int d0 u0, .int d1 u1, .int d2 u2, .int d3 u3] ∧ (0 ≤ d0 ∧ d0 ≤ 2) ∧ (0 ≤ d1 ∧ d1 ≤ 2) ∧ (0 ≤ d2 ∧ d2 ≤ 2) ∧ (0 ≤ d3 ∧ d3 ≤ 2) := by
  subst hn
  rcases ys with _ | ⟨a, _ | ⟨b, _ | ⟨c, _ | ⟨d, _ | ⟨e, ys⟩⟩⟩⟩⟩
  · cases hyl
  · cases hyl
  · cases hyl
  · cases hyl
  · obtain ⟨d0, u0, e0, h0⟩ := hok 0 a rfl
    obtain ⟨d1, u1, e1, h1⟩ := hok 1 b rfl
    obtain ⟨d2, u2, e2, h2⟩ := hok 2 c rfl
    obtain ⟨d3, u3, e3, h3⟩ := hok 3 d rfl
    exact ⟨d0, d1, d2, d3, u0, u1, u2, u3, by rw [e0, e1, e2, e3], h0, h1, h2, h3⟩
  · simp only [List.length_cons] at hyl; omega
theorem en_int {a b c d : Int} {t1 t2 t3 t4 : Tok} {i : Nat} {v : Value} (h : (#[.int a t1, .int b t2, .int c t3, .int d t4] : Array Value)[i]? = some v) : ∃ n t, v = .int n t := by
  match i, h with
  | 0, h => exact ⟨_, _, (Option.some.inj h).symm⟩
  | 1, h => exact ⟨_, _, (Option.some.inj h).symm⟩
  | 2, h => exact ⟨_, _, (Option.some.inj h).symm⟩
  | 3, h => exact ⟨_, _, (Option.some.inj h).symm⟩
  | n + 4, h => simp at h
theorem low_L {w : World} {h₀ h : Heap} {L : Addr} {m : Str → Option Value} (X : (hd.heap_39 w.params).In h₀) (F : Fr h₀ L h m) : @LT.lt Nat _ 80 L := by
  obtain ⟨o, e⟩ := Option.isSome_iff_exists.mp (show ((hd.heap_39 w.params).lookup 80).isSome = true by kernel_rfl)
  exact Nat.lt_of_lt_of_le (Heap.lt_size (X _ _ e)) F.above
theorem mark_eq (T : Int) (k : Nat) : mS ((T.fmod 7).toNat + k) = Txt.item (Str.ofString "&<>\"\r\n\t") ((T + (0 + (k : Int))).fmod 7) := by
  unfold mS
  congr 1
  rw [Int.fmod_eq_emod_of_nonneg _ (by decide), Int.fmod_eq_emod_of_nonneg _ (by decide)]
  omega
theorem marks_K {T W d0 d1 d2 d3 x0 x1 x2 : Int} {hx hy hz a b c : UInt64} {p0 p1 p2 : Str} (K : Facts W d0 d1 d2 d3 x0 x1 x2 hx hy hz a b c (mS ((T.fmod 7).toNat)) (mS ((T.fmod 7).toNat + 1)) (mS ((T.fmod 7).toNat + 2)) (mS ((T.fmod 7).toNat + 3)) p0 p1 p2) :
    Facts W d0 d1 d2 d3 x0 x1 x2 hx hy hz a b c (Txt.item (Str.ofString "&<>\"\r\n\t") ((T + (0 + ((0 : Nat) : Int))).fmod 7)) (Txt.item (Str.ofString "&<>\"\r\n\t") ((T + (0 + ((0 + 1 : Nat) : Int))).fmod 7)) (Txt.item (Str.ofString "&<>\"\r\n\t") ((T + (0 + ((0 + 1 + 1 : Nat) : Int))).fmod 7)) (Txt.item (Str.ofString "&<>\"\r\n\t") ((T + (0 + ((0 + 1 + 1 + 1 : Nat) : Int))).fmod 7)) p0 p1 p2 := by
  rw [← mark_eq, ← mark_eq, ← mark_eq, ← mark_eq]
  exact K
theorem law_holds : PySem.Challenge.rw_rw0037_01.Holds := hd (by
  k_with_none
  k_with "execs cons" => (first | (k_here; k_gentoks) | (k_here; k_made) | ((with_reducible refine Mine.Hi.ex_hid ?_); intro qH'Q hH'Q; (try dsimp only)))
  k_with "exec Assign cons ListComp" => ((k_here; (with_reducible show wpAny _ _ (exec (Stmt.Assign [Expr.Name (Str.ofString "drawn") _] _ _) _) _ _ _); k_dflt (refine' Assign_EN (F₀ := ?eFK) ?e1K ?e2K ?e3K ?e4K ?e5K ?e6K ?e7K ?e8K ?e9K ?e10K ?e11K ?_; (case eFK => k_asm); (case e1K => rfl); (case e2K => with_unfolding_all rfl); (case e3K => with_unfolding_all rfl); (case e4K => decide); (case e5K => rfl); (case e6K => decide); (case e7K => rfl); (case e8K => rfl); (case e9K => decide); (case e10K => rfl); (case e11K => rfl))))
  k_with "CompRest" => ((with_unfolding_all first | (refine LCg.CompRest.succ ?_; intro v'Q I'Q oI'Q C'Q oC'Q D'Q m'Q h'Q tk'Q E'Q hv'Q hC'Q hx'Q F'Q N'Q off'Q ne'Q; (first | lcg_open hv'Q | (obtain ⟨t9', hv9'⟩ := hv'Q; subst hv9')); (try k_sweep); (try dsimp only); (refine Mine.Hi.post_hid ?_; intro qV'Q hV'Q)) | refine LCg.CompRest.zero ?_))
  k_with "CompRestT" => ((with_unfolding_all first | (refine LCt.CompRestT.succ ?_; intro v'Q I'Q oI'Q C'Q oC'Q D'Q m'Q h'Q tk'Q E'Q hv'Q hC'Q hx'Q F'Q N'Q off'Q ne'Q; (first | lcg_open hv'Q | (obtain ⟨t9', hv9'⟩ := hv'Q; subst hv9')); (try k_sweep); (try dsimp only); (refine Mine.Hi.post_hid ?_; intro qV'Q hV'Q)) | refine LCt.CompRestT.zero ?_))
  k_with "CompEnd int" => ((k_dflt (refine' Cm.ce_same ?aK ?bK ?cK ?dK ?_; (case aK => k_asm); (case bK => k_asm); (case cK => assumption); (case dK => lcg_src))))
  k_with "CompEnd none" => ((k_dflt (refine' Cm.ce_same ?aK ?bK ?cK ?dK ?_; (case aK => k_asm); (case bK => k_asm); (case cK => assumption); (case dK => lcg_src))))
  k_with "CompEnd str" => ((k_dflt (refine' Cm.ce_same ?aK ?bK ?cK ?dK ?_; (case aK => k_asm); (case bK => k_asm); (case cK => assumption); (case dK => lcg_src))))
  k_with "CompEnd float" => ((k_dflt (refine' Cm.ce_same ?aK ?bK ?cK ?dK ?_; (case aK => k_asm); (case bK => k_asm); (case cK => assumption); (case dK => lcg_src))))
  k_with "CompSrc" => ((k_here; k_dflt (refine LCg.CompSrc.range (by rfl) (by k_asm) (by k_asm) (by assumption) (by first | decide | rfl) (by first | rfl | decide) (by exact Nat.le_of_ble_eq_true rfl) ?_; intro g'Q; lcg_lit)))
  k_with "subscriptTail Name Slice ref ref" => ((k_here; (with_reducible show wpAny _ _ (subscriptTail _ (PySem.Expr.Slice _ _ (some _) _) (Value.ref _) (Value.ref _)) _ _ _); k_dflt (refine' slice3_ints ?FK ?NK ?lK ?iK ?pK ?qK ?kK ?oK ?_ ?sK ?tK ?zK; (case FK => k_asm); (case NK => k_asm); (case lK => kmk_list); (case iK => l_ints); (case pK => kmk_part); (case qK => kmk_part); (case kK => kmk_part); (case oK => decide); (case sK => with_unfolding_all rfl); (case tK => intro _; with_unfolding_all rfl); (case zK => size_fits)); intro h'Q D'Q ws'Q F'Q N'Q hi'Q l1Q; (try k_lt l1Q); (try k_sweep)))
  k_go0
  all_goals try k_fold
  (refine Mine.Hi.post_hid ?_; intro qT hT)
  skip
  repeat' ((fail_if_success (with_reducible show wpAny _ _ (exec (Stmt.Assign [_] (Expr.BinOp _ _ _ _) _) _) _ _ _)); first | (((fail_if_success (with_reducible show wpAny _ _ _ _ _ _)); first | (refine Mine.Hi.HidV.out (by with_reducible assumption) _ _ ?_) | (refine Mine.Hi.Hid.nxt (by with_reducible assumption) _ ?_) | (refine Mine.Hi.Hid.oth (by with_reducible assumption) _ _ (fun h => nomatch h) ?_)); (try dsimp only)) | (k_unfold; (try dsimp only)) | ((with_reducible show wpAny _ _ (evalPart _ _) _ _ _); walk1) | ((with_reducible show wpAny _ _ (subscriptTail _ _ _ _) _ _ _); walk1) | (walk1 <;> (try ((fail_if_success (with_reducible show wpAny _ _ (subscriptTail _ _ _ _) _ _ _)); dsimp only))) | (dsimp only; walk1 <;> (try ((fail_if_success (with_reducible show wpAny _ _ (subscriptTail _ _ _ _) _ _ _)); dsimp only))))
  generalize hT : (List.take 63 (_ : List Int)).sum = T at *
  repeat' ((fail_if_success (with_reducible show wpAny _ _ (call (Value.type "enumerate") _) _ _ _)); first | (((fail_if_success (with_reducible show wpAny _ _ _ _ _ _)); first | (refine Mine.Hi.HidV.out (by with_reducible assumption) _ _ ?_) | (refine Mine.Hi.Hid.nxt (by with_reducible assumption) _ ?_) | (refine Mine.Hi.Hid.oth (by with_reducible assumption) _ _ (fun h => nomatch h) ?_)); (try dsimp only)) | (k_unfold; (try dsimp only)) | ((with_reducible show wpAny _ _ (evalPart _ _) _ _ _); walk1) | ((with_reducible show wpAny _ _ (subscriptTail _ _ _ _) _ _ _); walk1) | (walk1 <;> (try ((fail_if_success (with_reducible show wpAny _ _ (subscriptTail _ _ _ _) _ _ _)); dsimp only))) | (dsimp only; walk1 <;> (try ((fail_if_success (with_reducible show wpAny _ _ (subscriptTail _ _ _ _) _ _ _)); dsimp only))))
  skip

  refine' srcEN_call (fun _ y => dR y) ?hh ?hz ?F ?N ?_
  (case hh => rfl)
  (case F => k_asm)
  (case N => k_asm)
  (case hz => exact Nat.le_of_ble_eq_true rfl)
  intro g
  refine ⟨?elt, ?fin⟩
  case elt =>
    intro i hi
    · unfold EnElt
      intro e oe it oit C oC D oD m₂ h tk t v E' hv hC hx hy F' N'
      refine Mine.Hi.hideG (fun G hG => ?_)
      obtain ⟨n4, t4, eN4⟩ := en_int hv
      refine hG ?_
      clear hG
      subst eN4
      (try k_sweep)
      repeat' ((fail_if_success (with_reducible show EnEnd _ _ _ _ _ _ _ _)); first | (((fail_if_success (with_reducible show wpAny _ _ _ _ _ _)); first | (refine Mine.Hi.HidV.out (by with_reducible assumption) _ _ ?_) | (refine Mine.Hi.Hid.nxt (by with_reducible assumption) _ ?_) | (refine Mine.Hi.Hid.oth (by with_reducible assumption) _ _ (fun h => nomatch h) ?_)); (try dsimp only)) | (k_unfold; (try dsimp only)) | ((with_reducible show wpAny _ _ (evalPart _ _) _ _ _); walk1) | ((with_reducible show wpAny _ _ (subscriptTail _ _ _ _) _ _ _); walk1) | (walk1 <;> (try ((fail_if_success (with_reducible show wpAny _ _ (subscriptTail _ _ _ _) _ _ _)); dsimp only))) | (dsimp only; walk1 <;> (try ((fail_if_success (with_reducible show wpAny _ _ (subscriptTail _ _ _ _) _ _ _)); dsimp only))))
      (try k_sweep)
      exact en_end (by k_asm) (by k_asm) (fun p hp => .tail _ hp) dR_mk
      skip
  case fin =>
    unfold FinEN
    intro D ys h tk hyl hok F' N' l1
    (try k_sweep)
    skip
    refine Mine.Hi.hideG (fun G hG => ?_)
    obtain ⟨d0, d1, d2, d3, u0, u1, u2, u3, eY4, b0, b1, b2, b3⟩ := ys4 hyl hok
    have ha : (T.fmod 7).toNat < 7 := by
      have h1 := Int.fmod_lt_of_pos T (b := 7) (by decide)
      have h2 := Int.fmod_nonneg_of_pos T (b := 7) (by decide)
      omega
    have hw1 : 2 ≤ 2 + T.fmod 4 := by
      have := Int.fmod_nonneg_of_pos T (b := 4) (by decide)
      omega
    have hw2 : 2 + T.fmod 4 ≤ 5 := by
      have := Int.fmod_lt_of_pos T (b := 4) (by decide)
      omega
    have l9 := allLt_of l1
    simp only [AllLt, and_true] at l9
    obtain ⟨x0, x1, x2, hx, hy, hz, fa, fb, fc, p0, p1, p2, K⟩ := facts_all hw1 hw2 ha b0 b1 b2 b3
    refine hG ?_
    clear hG
    subst eY4
    skip
    (try (((fail_if_success (with_reducible show wpAny _ _ _ _ _ _)); first | (refine Mine.Hi.HidV.out (by with_reducible assumption) _ _ ?_) | (refine Mine.Hi.Hid.nxt (by with_reducible assumption) _ ?_) | (refine Mine.Hi.Hid.oth (by with_reducible assumption) _ _ (fun h => nomatch h) ?_)); (try dsimp only)))
    show wpAny _ _ _ _ _ _
    refine' law_rest (marks_K K) ?X ?T ?B ?F ?N ?dw ?dp ?dy ?dz ?l1 ?l2 ?l3 ?l4 ?ret
    case F => k_asm
    case X => k_asm
    case T => k_asm
    case B => k_asm
    skip
    case N => exact nsub (by k_asm) (by lcg_sub)
    case dw => with_reducible assumption
    skip
    case dp => with_reducible assumption
    case dy => with_reducible assumption
    case dz => with_reducible assumption
    skip
    case l1 => exact Nat.lt_trans (by decide : 44 < 80) (low_L (by k_asm) F')
    skip
    case l2 => exact Nat.lt_trans (by decide : 37 < 80) (low_L (by k_asm) F')
    case l3 => omega
    case l4 => first | (apply Ne.symm; with_reducible assumption) | omega
    skip
    case ret =>
      intro h2 tk2 m2 q1 q2 F2 N2
      clear N' F'
      skip
      repeat' (first | (((fail_if_success (with_reducible show wpAny _ _ _ _ _ _)); first | (refine Mine.Hi.HidV.out (by with_reducible assumption) _ _ ?_) | (refine Mine.Hi.Hid.nxt (by with_reducible assumption) _ ?_) | (refine Mine.Hi.Hid.oth (by with_reducible assumption) _ _ (fun h => nomatch h) ?_)); (try dsimp only)) | (k_unfold; (try dsimp only)) | (k_end; wrow_close) | ((with_reducible show wpAny _ _ (evalPart _ _) _ _ _); walk1) | ((with_reducible show wpAny _ _ (subscriptTail _ _ _ _) _ _ _); walk1) | (walk1 <;> (try ((fail_if_success (with_reducible show wpAny _ _ (subscriptTail _ _ _ _) _ _ _)); dsimp only))) | (dsimp only; walk1 <;> (try ((fail_if_success (with_reducible show wpAny _ _ (subscriptTail _ _ _ _) _ _ _)); dsimp only))) | (leave1; walk_say "STEP leave1"; try dsimp only)))
end Mine.F9
end
theorem PySem.Challenge.cw_rw0037_01_holds : PySem.Challenge.rw_rw0037_01.Holds := by
  exact Mine.F9.law_holds
