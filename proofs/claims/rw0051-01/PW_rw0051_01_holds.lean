import PyProof.Rows.All
import Wide.All
import OpenK.AllK
import Wide.FinOn
import Lean
import PySem.Challenge.RW_rw0051_01
set_option Elab.async false
set_option compiler.extract_closed false
set_option linter.all false
section SPre
open PySem PySem.W PyProof.Rows PySem.Calls
set_option Elab.async false
set_option maxRecDepth 100000
namespace Mine

theorem gentoks1 {α : Type} {M : Model} {A : Around} {t : Sem α} {Q : α → Shared → Prop} {E : Value → Shared → Prop} {hp : Heap} {gs : Array GenState} {dr : Drawn} {Y : Nat} {os : OsState}
    (h : ∀ tk, 1 ≤ tk → wpAny M A t Q E ⟨hp, gs, dr, tk, os⟩) : wpAny M A t Q E ⟨hp, gs, dr, Y + 1, os⟩ := h _ (Nat.le_add_left 1 Y)

theorem gentoks2 {α : Type} {M : Model} {A : Around} {t : Sem α} {Q : α → Shared → Prop} {E : Value → Shared → Prop} {hp : Heap} {gs : Array GenState} {dr : Drawn} {X : Nat} {os : OsState}
    (hX : 1 ≤ X) (h : ∀ tk, 1 ≤ tk → wpAny M A t Q E ⟨hp, gs, dr, tk, os⟩) : wpAny M A t Q E ⟨hp, gs, dr, X, os⟩ := h _ hX

theorem roomA {x a D l : Nat} (h : a + D < l) (e : x ≤ a + D) : x < l := Nat.lt_of_le_of_lt e h

/-- a text by its signs' numbers -/
abbrev S (l : List Nat) : PySem.Str := ⟨l.toArray⟩
theorem S_len (l : List Nat) : (S l).length = l.length := by simp [PySem.Str.length]
theorem S_eq (x : PySem.Str) : x = S x.cps.toList := by cases x; simp [S]
theorem S_append (a b : List Nat) : S a ++ S b = S (a ++ b) := by
  show PySem.Str.append (S a) (S b) = _
  simp [S, PySem.Str.append]
theorem S_inj {a b : List Nat} (h : S a = S b) : a = b := by
  have := congrArg (fun x : PySem.Str => x.cps.toList) h
  simpa [S] using this

def rep1 (c : Nat) (r l : List Nat) : List Nat := l.flatMap fun a => if a = c then r else [a]
theorem rep1_free {c : Nat} {r l : List Nat} (h : c ∉ l) : rep1 c r l = l := by
  induction l with
  | nil => rfl
  | cons a l ih =>
    have h1 : a ≠ c := fun e => h (e ▸ .head _)
    have h2 : c ∉ l := fun e => h (.tail _ e)
    show (if a = c then r else [a]) ++ rep1 c r l = a :: l
    rw [if_neg h1, ih h2]; rfl
theorem rep1_append (c : Nat) (r a b : List Nat) : rep1 c r (a ++ b) = rep1 c r a ++ rep1 c r b := by simp [rep1]
theorem rep1_join (c : Nat) (r : List Nat) : ∀ (ps : List PySem.Str), (∀ p ∈ ps, c ∉ p.cps.toList) → S (rep1 c r (PySem.Str.join (S [c]) ps).cps.toList) = PySem.Str.join (S r) ps
  | [], _ => by simp [PySem.Str.join, rep1, PySem.Str.empty, S]
  | [p], h => by
    show S (rep1 c r p.cps.toList) = p
    rw [rep1_free (h p (.head _))]
  | p :: q :: ps, h => by
    have ih := rep1_join c r (q :: ps) fun a ha => h a (.tail _ ha)
    show S (rep1 c r (p ++ S [c] ++ PySem.Str.join (S [c]) (q :: ps)).cps.toList) = p ++ S r ++ PySem.Str.join (S r) (q :: ps)
    rw [← ih]
    have e1 : (p ++ S [c] ++ PySem.Str.join (S [c]) (q :: ps)).cps.toList = p.cps.toList ++ ([c] ++ (PySem.Str.join (S [c]) (q :: ps)).cps.toList) := by
      rw [PySem.Str.cps_append, PySem.Str.cps_append]; simp
    have e2 : rep1 c r [c] = r := by simp [rep1]
    rw [e1, rep1_append, rep1_append, rep1_free (h p (.head _)), e2]
    conv => rhs; rw [S_eq p]
    rw [S_append, S_append, List.append_assoc]
theorem replace_S (c : Nat) (r l : List Nat) : Txt.replace (S l) (S [c]) (S r) = S (rep1 c r l) := by
  rw [StrLaws.replace_one]
  have h := StrLaws.join_split (S l) (S [c]) 
  have e : PySem.Str.join (S [c]) (Txt.split (S l) (S [c])) = S l := by
    first | exact h | exact h (by simp [S]) | exact h (by decide)
  rw [← rep1_join c r (Txt.split (S l) (S [c])) (fun p hp => by
    have := StrLaws.split_free (S l) c p hp
    simpa using this), e]
theorem in_S (c : Nat) (l : List Nat) : (!(Builtin.Str.occurrences (S l) (S [c]) 0 (S l).length 1).isEmpty) = decide (c ∈ l) := by
  have := StrLaws.found_one (S l) c
  simpa [S] using this
def repN (rs : List (Nat × List Nat)) (l : List Nat) : List Nat := rs.foldl (fun l cr => rep1 cr.1 cr.2 l) l
theorem repN_snoc (rs : List (Nat × List Nat)) (c : Nat) (r l : List Nat) : rep1 c r (repN rs l) = repN (rs ++ [(c, r)]) l := by simp [repN]
theorem repN_app (rs : List (Nat × List Nat)) : ∀ a b, repN rs (a ++ b) = repN rs a ++ repN rs b := by
  induction rs with
  | nil => intro a b; rfl
  | cons p rs ih => intro a b; show repN rs (rep1 p.1 p.2 (a ++ b)) = _; rw [rep1_append, ih]; rfl
theorem repN_nil (rs : List (Nat × List Nat)) : repN rs [] = [] := by
  induction rs with
  | nil => rfl
  | cons p rs ih => exact ih
theorem repN_flat (rs : List (Nat × List Nat)) : ∀ l, repN rs l = l.flatMap fun a => repN rs [a]
  | [] => repN_nil rs
  | a :: l => by
    have := repN_app rs [a] l
    rw [List.singleton_append] at this
    rw [this, repN_flat rs l, List.flatMap_cons]
theorem repN_other {rs : List (Nat × List Nat)} {a : Nat} (h : a ∉ rs.map (·.1)) : repN rs [a] = [a] := by
  induction rs with
  | nil => rfl
  | cons p rs ih =>
    have h1 : a ≠ p.1 := fun e => h (by simp [e])
    have h2 : a ∉ rs.map (·.1) := fun e => h (by simp at e ⊢; exact .inr e)
    show repN rs (rep1 p.1 p.2 [a]) = [a]
    rw [rep1_free (by simp; exact fun e => h1 e.symm), ih h2]
theorem repN_one_len {rs : List (Nat × List Nat)} (k : Nat) (h : ((rs.map (·.1)).all fun c => decide ((repN rs [c]).length ≤ k)) = true) (h1 : 1 ≤ k) (a : Nat) : (repN rs [a]).length ≤ k := by
  by_cases ha : a ∈ rs.map (·.1)
  · exact of_decide_eq_true (List.all_eq_true.mp h a ha)
  · rw [repN_other ha]; exact h1
theorem flat_len {f : Nat → List Nat} {k : Nat} (h : ∀ a, (f a).length ≤ k) : ∀ l : List Nat, (l.flatMap f).length ≤ k * l.length
  | [] => by simp
  | a :: l => by
    have := flat_len h l
    have := h a
    rw [List.flatMap_cons, List.length_append, List.length_cons, Nat.mul_add]; omega
theorem repN_len {rs : List (Nat × List Nat)} (h : ((rs.map (·.1)).all fun c => decide ((repN rs [c]).length ≤ 6)) = true) (l : List Nat) : (repN rs l).length ≤ 6 * l.length := by
  rw [repN_flat]; exact flat_len (repN_one_len 6 h (by decide)) l
theorem of_amp : PySem.Str.ofString "&" = S [38] := by decide +kernel
theorem of_lt : PySem.Str.ofString "<" = S [60] := by decide +kernel
theorem of_gt : PySem.Str.ofString ">" = S [62] := by decide +kernel
theorem of_quot : PySem.Str.ofString "\"" = S [34] := by decide +kernel
theorem of_cr : PySem.Str.ofString "\r" = S [13] := by decide +kernel
theorem of_lf : PySem.Str.ofString "\n" = S [10] := by decide +kernel
theorem of_tab : PySem.Str.ofString "\t" = S [9] := by decide +kernel
theorem of_e0 : PySem.Str.ofString "&amp;" = S [38,97,109,112,59] := by decide +kernel
theorem of_e1 : PySem.Str.ofString "&lt;" = S [38,108,116,59] := by decide +kernel
theorem of_e2 : PySem.Str.ofString "&gt;" = S [38,103,116,59] := by decide +kernel
theorem of_e3 : PySem.Str.ofString "&quot;" = S [38,113,117,111,116,59] := by decide +kernel
theorem of_e4 : PySem.Str.ofString "&#13;" = S [38,35,49,51,59] := by decide +kernel
theorem of_e5 : PySem.Str.ofString "&#10;" = S [38,35,49,48,59] := by decide +kernel
theorem of_e6 : PySem.Str.ofString "&#09;" = S [38,35,48,57,59] := by decide +kernel
theorem of_e7 : PySem.Str.ofString "&#xD;" = S [38,35,120,68,59] := by decide +kernel
theorem of_e8 : PySem.Str.ofString "&#x9;" = S [38,35,120,57,59] := by decide +kernel
theorem of_e9 : PySem.Str.ofString "&#xA;" = S [38,35,120,65,59] := by decide +kernel
section
variable {prog : Program} {w : World} {A : Around} {E : Value → Shared → Prop} {s : Shared} {name : PySem.Str} {scope : Scope} {L a : Addr} {cd : Value} {h₀ : Heap} {m : PySem.Str → Option Value} {news : List (Addr × Obj)}
theorem Constant_str_ {x : PySem.Str} {k : Nat} {pos : Pos} {env : Env} {Q : Value → Shared → Prop} (h : Q (.str x s.toks) { s with toks := s.toks + 1 }) :
    wpAny (model prog w) A (eval (.Constant (.str x) k pos) env) Q E s := fun _ _ _ => h
theorem esc_if {cS rS : PySem.Str} {c : Nat} {r l : List Nat} {t : Tok} {k1 k2 k3 : Nat} {p1 p2 p3 p4 p5 p6 p7 p8 p9 p10 p11 : Pos} {Q : Flow → Shared → Prop}
    (F : Fr h₀ L s.heap m) (N : News h₀ L s.heap news) (hm : m "text" = some (.str (S l) t)) (ht : 1 ≤ s.toks) (hl : l.length ≤ 1048576) (hr : r.length ≤ 14) (hcr : (cS == rS) = false) (ec : cS = S [c]) (er : rS = S r)
    (h : ∀ h' tk' t', Fr h₀ L h' (fun y => if y = ("text" : PySem.Str) then some (.str (S (rep1 c r l)) t') else m y) → News h₀ L h' news → 1 ≤ tk' → Q .next { s with heap := h', toks := tk' })
    {pl : Sem Bool} (hcall : ∀ (Q' : Value → Shared → Prop) (s' : Shared), wpAny (model prog w) A (eval (.Name "text" p5) (envOf name scope L a cd)) (fun ov s₁ => wpAny (model prog w) A (getMethod ov "replace" pl) (fun fx s₂ => wpAny (model prog w) A (callWith p9 fx.1 fx.2 (backTo p9 (starEach [.Constant (.str cS) k2 p7, .Constant (.str rS) k3 p8] (envOf name scope L a cd))) []) Q' E s₂) E s₁) E s' →
      wpAny (model prog w) A (eval (.Call (.Attribute (.Name "text" p5) "replace" p6) [.Constant (.str cS) k2 p7, .Constant (.str rS) k3 p8] [] p9) (envOf name scope L a cd)) Q' E s')
    (hsw : swapsWith (.Call (.Attribute (.Name "text" p5) "replace" p6) [.Constant (.str cS) k2 p7, .Constant (.str rS) k3 p8] [] p9) (some (.Name "text" p4)) p10.line (envOf name scope L a cd) = pure false)
    (hk : scope.kind = .function) (hv : (envOf name scope L a cd).kindOf "text" = some .local) (hd : (("text" : PySem.Str) == ("__debug__" : PySem.Str)) = false) :
    wpAny (model prog w) A (exec (.If (.Compare (.Constant (.str cS) k1 p1) [.In] [.Name "text" p2] p3) [.Assign [.Name "text" p4] (.Call (.Attribute (.Name "text" p5) "replace" p6) [.Constant (.str cS) k2 p7, .Constant (.str rS) k3 p8] [] p9) p10] [] p11) (envOf name scope L a cd)) Q E s := by
  have em : (fun y => if y = ("text" : PySem.Str) then some (Value.str (S l) t) else m y) = m := by
    funext y; by_cases e : y = "text"
    · subst e; simp [hm]
    · simp [e]
  refine wpAny_If (wpAny_isTrue_Compare1 ?_)
  refine Constant_str_ ?_
  refine ld F hm ?_ hk hv hd
  refine in_str ?_
  refine wpAny_truthy_bool ?_
  subst ec er
  rw [in_S]
  by_cases hc : c ∈ l
  · simp only [hc, decide_true, if_true]
    refine wpAny_execs_cons (wpAny_Assign_Name ?_ hsw)
    refine hcall _ _ ?_
    refine ld F hm ?_ hk hv hd
    refine GM.replace ?_
    refine callWith_method1 ?_
    refine spliced_more (Constant_str_ ?_)
    refine spliced_more (Constant_str_ ?_)
    refine spliced_none ?_
    refine SC.replaceW (by show @Ne Nat _ _; dsimp only; omega) (by show @Ne Nat _ _; dsimp only; omega) (by show @Ne Nat _ _; dsimp only; omega) hcr (by rw [S_len]; exact hl) (by rw [S_len]; exact hr) ?_
    intro t' tk
    rw [replace_S]
    refine wpAny_storeName_local hv F.ns (fun h' hn hs => ?_) (by show (scope.kind == .class || (scope.kind == .module && L != mainGlobals)) = false; rw [hk]; rfl)
    refine wpAny_execs_nil ?_
    exact h h' (tk + 1) t' (F.set hn hs) (N.set hs) (by omega)
  · simp only [hc, decide_false, Bool.false_eq_true, if_false]
    refine wpAny_execs_nil ?_
    have := h s.heap (s.toks + 1) t (by rw [rep1_free hc, em]; exact F) N (by omega)
    exact this

theorem esc_ifN {cS rS : PySem.Str} {c : Nat} {r l : List Nat} {rs : List (Nat × List Nat)} {t : Tok} {k1 k2 k3 : Nat} {p1 p2 p3 p4 p5 p6 p7 p8 p9 p10 p11 : Pos} {Q : Flow → Shared → Prop}
    (F : Fr h₀ L s.heap m) (N : News h₀ L s.heap news) (hm : m "text" = some (.str (S (repN rs l)) t)) (ht : 1 ≤ s.toks) (hl : l.length ≤ 100000) (hrs : ((rs.map (·.1)).all fun c => decide ((repN rs [c]).length ≤ 6)) = true) (hr : r.length ≤ 14) (hcr : (cS == rS) = false) (ec : cS = S [c]) (er : rS = S r)
    (h : ∀ h' tk' t', Fr h₀ L h' (fun y => if y = ("text" : PySem.Str) then some (.str (S (repN (rs ++ [(c, r)]) l)) t') else m y) → News h₀ L h' news → 1 ≤ tk' → Q .next { s with heap := h', toks := tk' })
    {pl : Sem Bool} (hcall : ∀ (Q' : Value → Shared → Prop) (s' : Shared), wpAny (model prog w) A (eval (.Name "text" p5) (envOf name scope L a cd)) (fun ov s₁ => wpAny (model prog w) A (getMethod ov "replace" pl) (fun fx s₂ => wpAny (model prog w) A (callWith p9 fx.1 fx.2 (backTo p9 (starEach [.Constant (.str cS) k2 p7, .Constant (.str rS) k3 p8] (envOf name scope L a cd))) []) Q' E s₂) E s₁) E s' →
      wpAny (model prog w) A (eval (.Call (.Attribute (.Name "text" p5) "replace" p6) [.Constant (.str cS) k2 p7, .Constant (.str rS) k3 p8] [] p9) (envOf name scope L a cd)) Q' E s')
    (hsw : swapsWith (.Call (.Attribute (.Name "text" p5) "replace" p6) [.Constant (.str cS) k2 p7, .Constant (.str rS) k3 p8] [] p9) (some (.Name "text" p4)) p10.line (envOf name scope L a cd) = pure false)
    (hk : scope.kind = .function) (hv : (envOf name scope L a cd).kindOf "text" = some .local) (hd : (("text" : PySem.Str) == ("__debug__" : PySem.Str)) = false) :
    wpAny (model prog w) A (exec (.If (.Compare (.Constant (.str cS) k1 p1) [.In] [.Name "text" p2] p3) [.Assign [.Name "text" p4] (.Call (.Attribute (.Name "text" p5) "replace" p6) [.Constant (.str cS) k2 p7, .Constant (.str rS) k3 p8] [] p9) p10] [] p11) (envOf name scope L a cd)) Q E s :=
  esc_if F N hm ht (Nat.le_trans (repN_len hrs l) (by omega)) hr hcr ec er (fun h' tk' t' F' N' x => h h' tk' t' (by rw [← repN_snoc]; exact F') N' x) hcall hsw hk hv hd
end
end Mine
end SPre
section SBase1
open PySem PySem.W PyProof.Rows
set_option Elab.async false
set_option maxRecDepth 100000
set_option maxHeartbeats 8000000
namespace Mine
open_top hd for PySem.Challenge.rw_rw0051_01
end Mine
end SBase1
section SCt1
open PySem PySem.W PyProof.Rows PySem.Calls
set_option Elab.async false
set_option maxRecDepth 100000
set_option maxHeartbeats 8000000
set_option pp.maxSteps 400
set_option autoImplicit false
namespace Mine
/-- a goal at which the walk stops -/
def Hold (p : Prop) : Prop := p
theorem Hold.out {p : Prop} (h : Hold p) : p := h
abbrev cT (dp un : Nat) (gd : Option (List Code)) (env : Env) (outer : List Env) : Around := { handled := none, depth := dp, frames := some (env :: outer), guards := gd, units := un }
/-- what a call of a def of the text does, at any caller -/
abbrev Ct (w : World) (D U : Nat) (f : Addr) (args : List Value) (news : List (Addr × Obj)) (pre : Prop) (Post : Value → List (Addr × Obj) → Prop) : Prop :=
  ∀ (p : Program) (loose : List Str) (mean : ExcName → Option Value) (mg mb : Str → Option Value) (dp un : Nat) (gd : Option (List Code)) (env : Env) (outer : List Env) (A₀ : Around) (base h₀ : Heap) (L : Addr) (m : Str → Option Value) (s : Shared) (Q E : Value → Shared → Prop),
    Below A₀ base outer h₀ → Fr h₀ L s.heap m → (hd.heap_39 w.params).In h₀ → News h₀ L s.heap news → Top p loose mean mg mb h₀ → env.frame = some L → env.scope.kind = .function → dp + D < recursionLimit → un + U < cLine → 1 ≤ s.toks → pre →
    (∀ r h' tk' news', Fr h₀ L h' m → News h₀ L h' news' → 1 ≤ tk' → Post r news' → Q r { s with heap := h', toks := tk' }) →
    codeAny (model PySem.Challenge.rw_rw0051_01.row.prog w) (cT dp un gd env outer) (.call (.ref f) ⟨args, []⟩) (fun r s' => match r with | .ok (.ret v) => Q v s' | .ok _ => False | .error e => E e s') s
end Mine
namespace Mine
section
variable {w : World} {D U : Nat} {f : Addr} {args : List Value} {news : List (Addr × Obj)} {pre : Prop} {Post : Value → List (Addr × Obj) → Prop}
theorem ct_use {p : Program} {loose : List Str} {mean : ExcName → Option Value} {mg mb : Str → Option Value} {dp un : Nat} {gd : Option (List Code)} {env : Env} {outer : List Env} {A₀ : Around} {base h₀ : Heap} {L : Addr} {m : Str → Option Value} {s : Shared} {Q E : Value → Shared → Prop}
    (C : Ct w D U f args news pre Post) (B : Below A₀ base outer h₀) (F : Fr h₀ L s.heap m) (X : (hd.heap_39 w.params).In h₀) (N : News h₀ L s.heap news) (T : Top p loose mean mg mb h₀) (hf : env.frame = some L) (hk : env.scope.kind = .function) (hd : dp + D < recursionLimit) (hu : un + U < cLine) (ht : 1 ≤ s.toks) (hp : pre)
    (ret : ∀ r h' tk' news', Fr h₀ L h' m → News h₀ L h' news' → 1 ≤ tk' → Post r news' → Q r { s with heap := h', toks := tk' }) :
    wpAny (model PySem.Challenge.rw_rw0051_01.row.prog w) (cT dp un gd env outer) (call (.ref f) args) Q E s :=
  wpAny_call (C _ _ _ _ _ _ _ _ _ _ _ _ _ _ _ _ _ _ B F X N T hf hk hd hu ht hp ret)
/-- ct_use, with its plain premises shown at the place -/
theorem ct_useA {p : Program} {loose : List Str} {mean : ExcName → Option Value} {mg mb : Str → Option Value} {dp un : Nat} {gd : Option (List Code)} {env : Env} {outer : List Env} {A₀ : Around} {base h₀ : Heap} {L : Addr} {m : Str → Option Value} {s : Shared} {Q E : Value → Shared → Prop}
    (C : Ct w D U f args news pre Post) (hp : pre)
    (ret : ∀ r h' tk' news', Fr h₀ L h' m → News h₀ L h' news' → 1 ≤ tk' → Post r news' → Q r { s with heap := h', toks := tk' })
    (B : Below A₀ base outer h₀ := by k_asm) (F : Fr h₀ L s.heap m := by k_asm) (X : (hd.heap_39 w.params).In h₀ := by k_asm) (N : News h₀ L s.heap news := by first | k_asm | exact PyProof.Rows.News.tail' (by k_asm)) (T : Top p loose mean mg mb h₀ := by k_asm) (hf : env.frame = some L := by exact rfl) (hk : env.scope.kind = .function := by exact rfl) (hd : dp + D < recursionLimit := by ktr_room) (hu : un + U < cLine := by ktr_units) (ht : 1 ≤ s.toks := by first | assumption | exact Nat.le_add_left 1 _ | (dsimp only; omega)) :
    wpAny (model PySem.Challenge.rw_rw0051_01.row.prog w) (cT dp un gd env outer) (call (.ref f) args) Q E s :=
  ct_use C B F X N T hf hk hd hu ht hp ret
/-- the ledger laid in another order -/
theorem Ct.perm {news2 : List (Addr × Obj)} {Post2 : Value → List (Addr × Obj) → Prop} (C : Ct w D U f args news pre Post) (h1 : ∀ p ∈ news, p ∈ news2) (h2 : ∀ r n, Post r n → ∃ n2, (∀ p ∈ n2, p ∈ n) ∧ Post2 r n2) : Ct w D U f args news2 pre Post2 :=
  fun p loose mean mg mb dp un gd env outer A₀ base h₀ L m s Q E B F X N T hf hk hd hu ht hp ret =>
    C p loose mean mg mb dp un gd env outer A₀ base h₀ L m s Q E B F X (cb_drop N h1) T hf hk hd hu ht hp fun r h' tk' news' F' N' ht' hP => by
      obtain ⟨n2, hs, hP2⟩ := h2 r news' hP
      exact ret r h' tk' n2 F' (cb_drop N' hs) ht' hP2
end
end Mine
end SCt1
section SSrePure
open PySem PySem.W PyProof.Rows PySem.Calls
set_option Elab.async false
set_option maxRecDepth 100000
namespace Mine
open PySem.Sre

def codeA : Array Nat := #[14, 4, 0, 1, 1, 6, 1, 16, 46, 1]
def codeB : Array Nat := #[14, 9, 4, 1, 2, 16, 10, 16, 13, 0, 7, 7, 16, 13, 16, 10, 15, 18, 5, 16, 10, 15, 13, 11, 16, 13, 5, 5, 0, 16, 10, 1, 15, 2, 0, 1]

theorem runFor_stop : ∀ (n : Nat) (m : M), m.outcome.isSome = true → M.runFor n m = m
  | 0, _, _ => rfl
  | n + 1, m, h => by rw [M.runFor]; simp [h]
theorem runFor_add : ∀ (a b : Nat) (m : M), M.runFor (a + b) m = M.runFor b (M.runFor a m)
  | 0, b, m => by rw [Nat.zero_add]; rfl
  | a + 1, b, m => by
    rw [show a + 1 + b = (a + b) + 1 by omega]
    by_cases h : m.outcome.isSome = true
    · rw [runFor_stop _ m h, runFor_stop _ m h, runFor_stop _ m h]
    · rw [M.runFor, M.runFor, if_neg h, if_neg h, runFor_add a b]
theorem runFor_ge {a b : Nat} {m : M} (h : (M.runFor a m).outcome.isSome = true) (hab : a ≤ b) : M.runFor b m = M.runFor a m := by
  obtain ⟨c, rfl⟩ := Nat.exists_eq_add_of_le hab
  rw [runFor_add, runFor_stop _ _ h]

/-- the machine of the pattern codeA at the start of an attempt -/
def mA (text : Array Nat) (s hd : Nat) (o : Bool) (sn : Sre.Seen) : M :=
  { code := codeA, text := text, lim := text.size, start := s, lastStart := text.size, pc := 5, pos := s, handed := hd, outermost := o, marks := #[],
    frames := [{ wait := .nextStart, pc := 5, pos := s, outermost := o }], weight := 1, seen := sn }

theorem mA_step (text : Array Nat) (s hd : Nat) (o : Bool) (sn : Sre.Seen) :
    M.step (mA text s hd o sn) = if (s == 0 || text.getD (s - 1) 0 == 10) then { mA text s hd o ((sn.add 6).add 44) with pc := 7 } else (mA text s hd o ((sn.add 6).add 44)).say false := rfl
theorem mA_no (text : Array Nat) (s hd : Nat) (o : Bool) (sn : Sre.Seen) :
    M.step ((mA text s hd o sn).say false) = if s < text.size then mA text (s + 1) (s + 1) false sn else
      { code := codeA, text := text, lim := text.size, start := s, lastStart := text.size, pc := 5, pos := s, handed := hd, outermost := o, marks := #[], frames := [], weight := 0, seen := sn, answer := some false } := rfl
theorem runFor_one (m : M) (h : m.outcome = none) (n : Nat) : M.runFor (n + 1) m = M.runFor n m.step := by
  rw [M.runFor, h]; rfl

theorem mA_fails {text : Array Nat} (hno : ∀ i, text.getD i 0 ≠ 10) : ∀ (k s hd : Nat) (o : Bool) (sn : Sre.Seen), text.size - s = k → 0 < s → s ≤ text.size →
    ∃ m, M.runFor (2 * k + 3) (mA text s hd o sn) = m ∧ m.outcome = some .failed
  | 0, s, hd, o, sn, hk, h0, hs => by
    have e1 : (s == 0 || text.getD (s - 1) 0 == 10) = false := by
      simp only [Bool.or_eq_false_iff, beq_eq_false_iff_ne]
      exact ⟨by omega, hno (s - 1)⟩
    refine ⟨_, rfl, ?_⟩
    rw [runFor_one _ rfl, mA_step, e1, if_neg (by simp)]
    rw [runFor_one _ rfl, mA_no, if_neg (by omega)]
    rw [runFor_one _ rfl]; rfl
  | k + 1, s, hd, o, sn, hk, h0, hs => by
    have e1 : (s == 0 || text.getD (s - 1) 0 == 10) = false := by
      simp only [Bool.or_eq_false_iff, beq_eq_false_iff_ne]
      exact ⟨by omega, hno (s - 1)⟩
    obtain ⟨m, h1, h2⟩ := mA_fails hno k (s + 1) (s + 1) false ((sn.add 6).add 44) (by omega) (by omega) (by omega)
    refine ⟨m, ?_, h2⟩
    rw [← h1, show 2 * (k + 1) + 3 = (2 * k + 3) + 1 + 1 by omega]
    rw [runFor_one _ rfl, mA_step, e1, if_neg (by simp)]
    rw [runFor_one _ rfl, mA_no, if_pos (by omega)]

/-- the pattern codeA: no match from a place behind the first sign, none in a text without a dot ahead -/
theorem searchA_none {text : Array Nat} (hno : ∀ i, text.getD i 0 ≠ 10) (pos : Nat) (h : 0 < pos ∨ text.getD 0 0 ≠ 46) :
    ∃ n m, n ≤ 2 * text.size + 4 ∧ M.runFor n (forSearch codeA text 0 pos text.size false) = m ∧ m.outcome = some .failed := by
  by_cases hp : pos > text.size ∨ text.size - pos < 1
  · refine ⟨1, _, by omega, rfl, ?_⟩
    have e : forSearch codeA text 0 pos text.size false = M.say { code := codeA, text := text, lim := text.size, start := pos, pc := 5, pos := pos, handed := pos, marks := #[], seen := ({} : Sre.Seen).add 14 } false := by
      show (if pos > text.size || text.size - pos < 1 then _ else _) = _
      rw [if_pos (by simpa using hp)]; rfl
    rw [e]; rfl
  · have e : forSearch codeA text 0 pos text.size false = mA text pos pos true (({} : Sre.Seen).add 14) := by
      show (if pos > text.size || text.size - pos < 1 then _ else _) = _
      rw [if_neg (by simpa using hp)]; rfl
    rw [e]
    rcases Nat.eq_zero_or_pos pos with rfl | h0
    · have h46 : text.getD 0 0 ≠ 46 := h.resolve_left (by omega)
      have hs : 0 < text.size := by omega
      obtain ⟨m, h1, h2⟩ := mA_fails hno (text.size - 1) 1 1 false ((((({} : Sre.Seen).add 14).add 6).add 44).add 16) (by omega) (by omega) (by omega)
      refine ⟨(2 * (text.size - 1) + 3) + 1 + 1 + 1, m, by omega, ?_, h2⟩
      rw [← h1]
      rw [runFor_one _ rfl, mA_step, if_pos (show (0 == 0 || text.getD (0 - 1) 0 == 10) = true from rfl)]
      rw [runFor_one _ rfl]
      have e2 : M.step { mA text 0 0 true (((({} : Sre.Seen).add 14).add 6).add 44) with pc := 7 } = M.say { mA text 0 0 true ((((({} : Sre.Seen).add 14).add 6).add 44).add 16) with pc := 7 } false := by
        show (if 0 ≥ text.size then _ else match (Except.ok (text.getD 0 0 == 46, _) : Except String (Bool × Sre.Seen)) with | .error why => _ | .ok (false, seen) => _ | .ok (true, seen) => _) = _
        rw [if_neg (by omega), show (text.getD 0 0 == 46) = false by simpa using h46]; rfl
      rw [e2, runFor_one _ rfl]
      have e3 : M.step (M.say { mA text 0 0 true ((((({} : Sre.Seen).add 14).add 6).add 44).add 16) with pc := 7 } false) = if 0 < text.size then mA text 1 1 false ((((({} : Sre.Seen).add 14).add 6).add 44).add 16) else _ := rfl
      rw [e3, if_pos hs]
    · obtain ⟨m, h1, h2⟩ := mA_fails hno (text.size - pos) pos pos true (({} : Sre.Seen).add 14) rfl h0 (by omega)
      exact ⟨_, m, by omega, h1, h2⟩
/-- a dot ahead: matched from 0 to 1 -/
theorem searchA_dot {text : Array Nat} (h : text[0]? = some 46) :
    ∃ m, M.runFor 5 (forSearch codeA text 0 0 text.size false) = m ∧ m.outcome = some .matched ∧ m.start = 0 ∧ m.handed = 1 := by
  have hs : 0 < text.size := by
    rcases Nat.eq_zero_or_pos text.size with e | e
    · rw [Array.getElem?_eq_none (by omega)] at h; cases h
    · exact e
  have h46 : text.getD 0 0 = 46 := by simp [Array.getD_eq_getD_getElem?, h]
  have e : forSearch codeA text 0 0 text.size false = mA text 0 0 true (({} : Sre.Seen).add 14) := by
    show (if 0 > text.size || text.size - 0 < 1 then _ else _) = _
    rw [if_neg (by simp only [Bool.or_eq_true, decide_eq_true_eq]; omega)]; rfl
  refine ⟨_, rfl, ?_⟩
  rw [e, runFor_one _ rfl, mA_step, if_pos (show (0 == 0 || text.getD (0 - 1) 0 == 10) = true from rfl), runFor_one _ rfl]
  have e2 : M.step { mA text 0 0 true (((({} : Sre.Seen).add 14).add 6).add 44) with pc := 7 } = { mA text 0 0 true ((((({} : Sre.Seen).add 14).add 6).add 44).add 16) with pc := 9, pos := 1 } := by
    show (if 0 ≥ text.size then _ else match (Except.ok (text.getD 0 0 == 46, _) : Except String (Bool × Sre.Seen)) with | .error why => _ | .ok (false, seen) => _ | .ok (true, seen) => _) = _
    rw [if_neg (by omega), show (text.getD 0 0 == 46) = true by simp [h46]]; rfl
  rw [e2, runFor_one _ rfl, runFor_one _ rfl, runFor_one _ rfl]
  exact ⟨rfl, rfl, rfl⟩

theorem admB {text : Array Nat} (hno : ∀ i, text.getD i 0 ≠ 10 ∧ text.getD i 0 ≠ 13) (m : M) (hc : m.code = codeB) (ht : m.text = text) : ∀ (fuel s : Nat) (sn : Sre.Seen), ∃ sn', M.admitted m fuel s sn = .ok (none, sn')
  | 0, _, sn => ⟨sn, rfl⟩
  | fuel + 1, s, sn => by
    unfold M.admitted
    by_cases h : s ≥ m.lim
    · exact ⟨sn, by rw [if_pos h]⟩
    · rw [if_neg h, hc, ht]
      have h1 : (text.getD s 0 == 10) = false := by simpa using (hno s).1
      have h2 : (text.getD s 0 == 13) = false := by simpa using (hno s).2
      have : ∃ sn', inSet codeB (text.getD s 0) codeB.size 5 true sn = .ok (false, sn') := by
        generalize text.getD s 0 = c at h1 h2
        refine ⟨((sn.add 16).add 16).add 0, ?_⟩
        show (if (c == 10) = true then Except.ok (true, sn.add 16) else (if (c == 13) = true then Except.ok (true, (sn.add 16).add 16) else Except.ok (false, ((sn.add 16).add 16).add 0))) = _
        rw [h1, h2]
        rfl
      obtain ⟨sn', e⟩ := this
      rw [e]
      exact admB hno m hc ht fuel (s + 1) sn'
theorem searchB_none {text : Array Nat} (hno : ∀ i, text.getD i 0 ≠ 10 ∧ text.getD i 0 ≠ 13) (pos : Nat) :
    ∃ m, M.runFor 1 (forSearch codeB text 0 pos text.size false) = m ∧ m.outcome = some .failed := by
  by_cases hp : pos > text.size ∨ text.size - pos < 1
  · refine ⟨_, rfl, ?_⟩
    have e : forSearch codeB text 0 pos text.size false = M.say { code := codeB, text := text, lim := text.size, start := pos, pc := 10, pos := pos, handed := pos, marks := #[], seen := ({} : Sre.Seen).add 14 } false := by
      show (if pos > text.size || text.size - pos < 1 then _ else _) = _
      rw [if_pos (by simpa using hp)]; rfl
    rw [e]; rfl
  · obtain ⟨sn', hadm⟩ := admB hno { code := codeB, text := text, lim := text.size, start := pos, lastStart := text.size, pc := 10, pos := pos, handed := pos, marks := #[], seen := ({} : Sre.Seen).add 14 } rfl rfl (text.size + 1 - pos) pos (({} : Sre.Seen).add 14)
    refine ⟨_, rfl, ?_⟩
    have e : forSearch codeB text 0 pos text.size false = M.say { code := codeB, text := text, lim := text.size, start := pos, lastStart := text.size, pc := 10, pos := pos, handed := pos, marks := #[], seen := sn' } false := by
      show (if pos > text.size || text.size - pos < 1 then _ else (M.attemptFrom { code := codeB, text := text, lim := text.size, start := pos, lastStart := text.size, pc := 10, pos := pos, handed := pos, marks := #[], seen := ({} : Sre.Seen).add 14 } pos true)) = _
      rw [if_neg (by simpa using hp)]
      show (match M.admitted _ (text.size + 1 - pos) pos (({} : Sre.Seen).add 14) with | .ok (some s, seen) => _ | .ok (none, seen) => _ | .error why => _) = _
      rw [hadm]
    rw [e]; rfl
end Mine
end SSrePure
section SSubRule
open PySem PySem.W PyProof.Rows PySem.Calls
set_option Elab.async false
set_option maxRecDepth 100000
namespace Mine
open PySem.Sre PySem.Builtin PySem.Builtin.Re

section
variable {M : Model} {A : Around} {E : Value → Shared → Prop} {s : Shared}
theorem wpAny_reDrive : ∀ (turns n : Nat) (m : Sre.M) (Q : Sre.M → Shared → Prop), (Sre.M.runFor n m).outcome.isSome = true → n < turns → Q (Sre.M.runFor n m) s → wpAny M A (reDrive turns m) Q E s
  | 0, n, _, _, _, h, _ => absurd h (Nat.not_lt_zero _)
  | turns + 1, n, m, Q, ho, hn, h => by
    unfold reDrive
    show wpAny M A (if ((Sre.M.runFor 4 m).outcome.isSome) = true then pure (Sre.M.runFor 4 m) else (rule "sre.turn" >>= fun _ => reDrive turns (Sre.M.runFor 4 m))) Q E s
    by_cases h4 : (Sre.M.runFor 4 m).outcome.isSome = true
    · rw [if_pos h4]
      have e : Sre.M.runFor 4 m = Sre.M.runFor n m := by
        rcases Nat.le_total n 4 with l | l
        · exact runFor_ge ho l
        · exact (runFor_ge h4 l).symm
      rw [e]; exact wpAny_pure h
    · rw [if_neg h4]
      have l : 4 < n := by
        rcases Nat.lt_or_ge 4 n with l | l
        · exact l
        · exact absurd (by rw [runFor_ge ho l]; exact ho) h4
      have e : Sre.M.runFor n m = Sre.M.runFor (n - 4) (Sre.M.runFor 4 m) := by rw [← runFor_add]; congr 1; omega
      rw [e] at ho h
      exact wpAny_bind (wpAny_rule (wpAny_reDrive turns (n - 4) _ Q ho (by omega) h))

theorem wpAny_forRules {α : Type} {f : α → PUnit → Sem (ForInStep PUnit)} (hf : ∀ x, (f x ⟨⟩ = pure (.yield ⟨⟩)) ∨ ∃ t, f x ⟨⟩ = (rule t >>= fun _ => pure (.yield ⟨⟩))) {Q : PUnit → Shared → Prop} (h : Q ⟨⟩ s) (l : List α) : wpAny M A (forIn l ⟨⟩ f) Q E s := by
  refine wpAny_forIn_list f (fun _ _ s' => Q ⟨⟩ s') Q (fun x rest b s' hI => ?_) (fun b s' hI => hI) l ⟨⟩ h
  cases b
  rcases hf x with e | ⟨t, e⟩
  · rw [e]; exact wpAny_pure hI
  · rw [e]; exact wpAny_bind (wpAny_rule (wpAny_pure hI))

theorem wpAny_reRunToEnd {n : Nat} {m : Sre.M} {Q : Option Sre.M → Shared → Prop} (hn : n < 2 ^ 64) (h : ((Sre.M.runFor n m).outcome = some .matched ∧ Q (some (Sre.M.runFor n m)) s) ∨ ((Sre.M.runFor n m).outcome = some .failed ∧ Q none s)) :
    wpAny M A (reRunToEnd m) Q E s := by
  unfold reRunToEnd
  have ho : (Sre.M.runFor n m).outcome.isSome = true := by rcases h with h | h <;> rw [h.1] <;> rfl
  refine wpAny_bind (wpAny_reDrive (2 ^ 64) n m _ ho hn ?_)
  generalize Sre.M.runFor n m = m' at h
  refine wpAny_bind (wpAny_forRules (fun i => ?_) ?_ _)
  · by_cases hs : m'.seen.has i = true
    · right
      refine ⟨Sre.names.getD i "", ?_⟩
      simp [hs]
    · left
      simp [hs]
  · rcases h with ⟨e, h⟩ | ⟨e, h⟩
    · rw [e]; exact wpAny_pure h
    · rw [e]; exact wpAny_pure h
end

/-- a compiled pattern of strs without groups, its code being code -/
structure IsPat (h : Heap) (P : Addr) (code : Array Nat) : Prop where
  at_ : ∃ a b c d cT u v sl, h.get? P = some ⟨.type "re.Pattern", none, .fields #[a, b, .int 0 u, c, d, .ref cT, .int 0 v], sl⟩ ∧
    ∃ ct dd xs n sl2, h.get? cT = some ⟨ct, dd, .seq xs n, sl2⟩ ∧ (xs.map reRawOf).map (·.toNat) = code

abbrev tgt (P : Addr) (x : PySem.Str) (t : Tok) (code : Array Nat) : ReTarget := { pattern := .ref P, string := .str x t, code := code, text := x.cps, kind := 0, groups := 0, pos := 0, lim := x.cps.size }
section
variable {M : Model} {A : Around} {E : Value → Shared → Prop} {s : Shared} {P : Addr} {code : Array Nat} {x : PySem.Str} {t : Tok}
theorem wpAny_reWholeTarget {Q : ReTarget → Shared → Prop} (hp : IsPat s.heap P code) (h : Q (tgt P x t code) s) : wpAny M A (reWholeTarget (.ref P) (.str x t)) Q E s := by
  obtain ⟨a, b, c, d, cT, u, v, sl, hP, ct, dd, xs, n, sl2, hc, hx⟩ := hp.at_
  unfold reWholeTarget
  refine wpAny_bind (wpAny_fieldsOf hP rfl ?_)
  show wpAny M A (reRawItems (.ref cT) >>= fun r => pure ({ pattern := .ref P, string := .str x t, code := r.map (·.toNat), text := x.cps, kind := 0, groups := 0, pos := 0, lim := x.cps.size } : ReTarget)) Q E s
  refine wpAny_bind ?_
  unfold reRawItems
  refine wpAny_bind (wpAny_seqItems hc rfl ?_)
  refine wpAny_pure (wpAny_pure ?_)
  have : ((some xs).getD #[]).map reRawOf = xs.map reRawOf := rfl
  rw [this, hx]; exact h
end

theorem entry_subloop : entryFor table "re.Pattern.sub.loop" = some Builtin.«re.Pattern.sub.loop» := entryFor_of_tree (by kernel_rfl)
theorem plain_subloop : plainId "re.Pattern.sub.loop" = true := by decide +kernel
section
variable {prog : Program} {w : World} {A A' : Around} {E : Value → Shared → Prop} {s : Shared} {P D : Addr} {code : Array Nat} {l0 : List Nat} {t u : Tok} {r : PySem.Str} {R : Result → Shared → Prop}
theorem codeAny_plain {id : String} {args : Args} {b : Builtin} (hb : entryFor table id = some b) (hq : plainId id = true)
    (h : wpAny (model prog w) A.in1 (b args) (fun fin s' => match fin with | .done f => R (.ok f) s' | .again c' => c'.quiet = true ∧ codeAny (model prog w) A c' R s') (fun e s' => R (.error e) s') s) :
    codeAny (model prog w) A (.builtin id args) R s := by
  refine codeAny_of_tree ?_
  rw [Around.under_plainId hq]
  show wpAny _ _ (match entryFor table id with | some b => b args | none => unsupported ((withoutEnding? id "#data").getD id)) _ _ s
  rw [hb]; exact h

theorem join_nil : ∀ l : List PySem.Str, PySem.Str.join (S []) l = S (l.flatMap (·.cps.toList))
  | [] => rfl
  | [x] => by simp only [List.flatMap_cons, List.flatMap_nil, List.append_nil]; exact S_eq x
  | x :: y :: r => by
    show x ++ S [] ++ PySem.Str.join (S []) (y :: r) = _
    rw [join_nil (y :: r)]
    have e : (x :: y :: r).flatMap (·.cps.toList) = x.cps.toList ++ (y :: r).flatMap (·.cps.toList) := List.flatMap_cons
    rw [e, ← S_append, ← S_eq x]
    have : x ++ S [] = x := by conv => lhs; rw [S_eq x, S_append, List.append_nil, ← S_eq x]
    rw [this]
theorem txt_join_nil (l : List PySem.Str) : Txt.join (S []) l = S (l.flatMap (·.cps.toList)) := by
  show Builtin.Str.glued (S []) l = _
  rw [StrLaws.glued_eq_join, join_nil]
theorem joinOk_nil {l : List PySem.Str} (h : (l.flatMap (·.cps.toList)).length ≤ 16777216) : JoinOk (S []) l = true := by
  unfold JoinOk Builtin.Str.tooLong
  rw [StrLaws.joinTotal]
  have e : (l.map (·.length)).sum = (l.flatMap (·.cps.toList)).length := by
    rw [List.length_flatMap]; congr 1
  rw [e, show (S []).length = 0 from rfl, Nat.mul_zero, Nat.add_zero, Bool.not_eq_true']
  exact decide_eq_false (by rw [sizeLine_eq]; omega)
theorem sub_tail {l : List (PySem.Str × Tok)} {nn : Nat} {n : Int} (hD : s.heap.get? D = some ⟨.type "list", none, .seq (strValues l).toArray nn, #[]⟩) (hsz : (l.flatMap (·.1.cps.toList)).length ≤ 16777216)
    (h : ∀ tk t', R (.ok (.ret (.str (S (l.flatMap (·.1.cps.toList))) t'))) { s with toks := tk }) :
    wpAny (model prog w) A (do
      let joiner ← reSlice l0.toArray 0 0 0
      let __do_lift ← seqItems? (Value.ref D)
      if (__do_lift.getD #[]).isEmpty = true then do
          let text ← pure joiner
          if false = true then do
              let __do_lift ←
                holding [text] do
                    let __do_lift ← mkInt n
                    newTuple [text, __do_lift]
              ret __do_lift
            else ret text
        else do
          let text ← call (Value.builtin (if ((0 : Nat) == 0) = true then "str.join" else "bytes.join")) [joiner, Value.ref D]
          if false = true then do
              let __do_lift ←
                holding [text] do
                    let __do_lift ← mkInt n
                    newTuple [text, __do_lift]
              ret __do_lift
            else ret text)
      (fun fin s' => match fin with | .done f => R (.ok f) s' | .again c' => c'.quiet = true ∧ codeAny (model prog w) A' c' R s') E s := by
  refine wpAny_bind (show wpAny _ _ (mkStr ⟨l0.toArray.extract 0 0⟩) _ _ _ from wpAny_mkStr ?_ (by simp [PySem.Str.length]))
  refine wpAny_bind (wpAny_seqItems (s := { s with toks := s.toks + 1 }) hD rfl ?_)
  have e0 : (⟨l0.toArray.extract 0 0⟩ : PySem.Str) = S [] := by simp
  cases l with
  | nil =>
    rw [if_pos (by rfl)]
    refine wpAny_bind (wpAny_pure ?_)
    rw [if_neg (by simp), e0]
    exact wpAny_pure (h _ _)
  | cons p l =>
    rw [if_neg (by simp [strValues]), e0]
    refine wpAny_bind (SC.join (s := { s with toks := s.toks + 1 }) (l := p :: l) ⟨_, hD, rfl, _, rfl⟩ rfl (joinOk_nil ?_) ?_)
    · rw [List.flatMap_map]; exact hsz
    · intro t' k
      rw [if_neg (by simp), txt_join_nil, List.flatMap_map]
      exact wpAny_pure (h _ _)
theorem push_list {xs : Array Value} {nn : Nat} {v : Value} {Q : Unit → Shared → Prop} {M : Model} (hD : s.heap.get? D = some ⟨.type "list", none, .seq xs nn, #[]⟩) (hz : xs.size ≤ 1000000)
    (h : ∀ h', h'.get? D = some ⟨.type "list", none, .seq (xs.push v) (nn + 1), #[]⟩ → (∀ b o, b ≠ D → s.heap.get? b = some o → h'.get? b = some o) → Q () { s with heap := h' }) : wpAny M A (updateSeq D (fun x => x.push v)) Q E s := by
  refine wpAny_updateSeq hD rfl (h _ ?_ fun b o hb e => (Heap.get?_update_ne _ _ _ _ hb).trans e) (by rw [sizeLine_eq]; omega) (by rw [Array.size_push, sizeLine_eq]; omega)
  rw [Heap.get?_update_self _ hD rfl]
  simp [Obj.mapSeq]
theorem loop_end {n : Int} {done start nn : Nat} {l : List (PySem.Str × Tok)} (hp : IsPat s.heap P code) (hD : s.heap.get? D = some ⟨.type "list", none, .seq (strValues l).toArray nn, #[]⟩)
    (hl : l.length ≤ 1) (hsz : (l.flatMap (·.1.cps.toList)).length + l0.length ≤ 16777216) (hs : ∃ k m, k < 2 ^ 64 ∧ Sre.M.runFor k (forSearch code (S l0).cps 0 start (S l0).cps.size false) = m ∧ m.outcome = some .failed)
    (hR : ∀ h' tk t', (∀ b o, b ≠ D → s.heap.get? b = some o → h'.get? b = some o) → R (.ok (.ret (.str (S (l.flatMap (·.1.cps.toList) ++ l0.drop done)) t'))) { s with heap := h', toks := tk }) :
    codeAny (model prog w) A (.builtin "re.Pattern.sub.loop" ⟨[.ref P, .str (S l0) t, .str r u, rawInt 0, rawInt 0, rawInt n, rawInt done, rawInt start, .bool false, .ref D, .bool false], []⟩) R s := by
  refine codeAny_plain entry_subloop plain_subloop ?_
  unfold Builtin.«re.Pattern.sub.loop»
  dsimp only [rawInt]
  refine wpAny_bind (wpAny_reWholeTarget hp ?_)
  rw [if_pos (show ((0 : Int) == 0) = true from rfl)]
  refine wpAny_bind (show wpAny _ _ (reLiteralCannotBeTurned (.str r u)) _ _ _ from wpAny_pure ?_)
  rw [if_neg (by simp)]
  obtain ⟨k, m, hk, hm, ho⟩ := hs
  refine wpAny_bind (wpAny_reRunToEnd (n := k) hk (.inr ⟨by rw [Int.toNat_natCast]; show (Sre.M.runFor k (forSearch code (S l0).cps 0 start (S l0).cps.size false)).outcome = _; rw [hm]; exact ho, ?_⟩))
  dsimp only
  rw [Int.toNat_natCast]
  have hl0 : (l0.toArray).size = l0.length := by simp
  by_cases hlt : done < l0.toArray.size
  · rw [if_pos hlt]
    refine wpAny_bind (show wpAny _ _ (mkStr ⟨l0.toArray.extract done l0.toArray.size⟩) _ _ _ from wpAny_mkStr ?_ (by simp [PySem.Str.length]; rw [sizeLine_eq]; omega))
    refine wpAny_bind (push_list (s := { s with toks := s.toks + 1 }) hD (by simp [strValues]; omega) fun h' hD' hk' => ?_)
    have e1 : (⟨l0.toArray.extract done l0.toArray.size⟩ : PySem.Str) = S (l0.drop done) := by
      have : l0.toArray.extract done l0.toArray.size = (l0.drop done).toArray := by
        apply Array.toList_inj.mp; simp; exact List.take_of_length_le (by simp)
      rw [this]
    rw [e1] at hD'
    have e2 : (strValues l).toArray.push (.str (S (l0.drop done)) s.toks) = (strValues (l ++ [(S (l0.drop done), s.toks)])).toArray := by simp [strValues]
    rw [e2] at hD'
    have e3 : ((l ++ [(S (l0.drop done), s.toks)]).flatMap (·.1.cps.toList)) = l.flatMap (·.1.cps.toList) ++ l0.drop done := by simp
    refine sub_tail (l := l ++ [(S (l0.drop done), s.toks)]) (s := { s with heap := h', toks := s.toks + 1 }) hD' (by rw [e3, List.length_append, List.length_drop]; omega) fun tk t' => ?_
    rw [e3]
    exact hR h' tk t' hk'
  · rw [if_neg hlt]
    have e3 : l0.drop done = [] := List.drop_eq_nil_of_le (by omega)
    refine sub_tail (l := l) hD (by omega) fun tk t' => ?_
    have := hR s.heap tk t' fun _ _ _ e => e
    rw [e3, List.append_nil] at this
    exact this
theorem slot_pat_sub : Slot "re.Pattern" "sub" "re.Pattern.sub" :=
  .of (owner := "re.Pattern") (n := "sub") (by rw [typeLookup_type, builtinLookup_eq_fast]; kernel_rfl) (by decide +kernel) (by decide +kernel) (by decide +kernel)
    (by first | exact .inl (by decide +kernel) | exact .inr (by decide +kernel)) (by rw [isSubtype_type]; kernel_rfl)
theorem entry_pat_sub : entryFor table "re.Pattern.sub" = some Builtin.«re.Pattern.sub» := entryFor_of_tree (by kernel_rfl)
theorem args_pat_sub (a b c : Value) : argsOk "re.Pattern.sub" ⟨[a, b, c], []⟩ := by unfold argsOk; kernel_rfl
theorem plainAttrs_pat : PlainAttrs "re.Pattern" :=
  ⟨⟨"object.__getattribute__", by rw [typeLookup_type, builtinLookup_eq_fast]; kernel_rfl, by decide +kernel⟩, by rw [typeLookup_type, builtinLookup_eq_fast]; kernel_rfl⟩
theorem type_pat_sub : typeOf (.builtin "re.Pattern.sub") = pure (.type "method_descriptor") := by show builtinType _ = _; rw [builtinType_eq_fast]; kernel_rfl
theorem str_nocall : typeLookup (.type "str") "__call__" = pure none := by rw [typeLookup_type, builtinLookup_eq_fast]; kernel_rfl
theorem IsPat.typeIs (hp : IsPat s.heap P code) : s.TypeIs (.ref P) "re.Pattern" := by
  obtain ⟨a, b, c, d, cT, u, v, sl, hP, _⟩ := hp.at_
  exact ⟨_, hP, rfl⟩
theorem getMethod_pat {pl : Sem Bool} {M : Model} {E : Value → Shared → Prop} {Q : Value × List Value → Shared → Prop} (hp : IsPat s.heap P code) (h : Q (.builtin "re.Pattern.sub", [.ref P]) s) :
    wpAny M A (getMethod (.ref P) "sub" pl) Q E s :=
  getMethod_builtin hp.typeIs plainAttrs_pat slot_pat_sub type_pat_sub (fun a e => by
    cases e
    obtain ⟨a, b, c, d, cT, u, v, sl, hP, _⟩ := hp.at_
    exact ⟨_, hP, rfl⟩) h

theorem reNamed_two (a b : Value) : reNamed "re.Pattern.sub" "sub" ["repl", "string", "count"] 2 [a, b] [] = pure [some a, some b, none] := by rfl
theorem sub_call {E : Value → Shared → Prop} {Q : Value → Shared → Prop} {res : List Nat} (hp : IsPat s.heap P code) (hl0 : l0.length ≤ 1000000) (hr : r.cps.contains 92 = false) (hr2 : r.length ≤ 1000)
    (hs : ((∃ k m, k < 2 ^ 64 ∧ Sre.M.runFor k (forSearch code (S l0).cps 0 0 (S l0).cps.size false) = m ∧ m.outcome = some .failed) ∧ res = l0) ∨
      ((∃ k m, k < 2 ^ 64 ∧ Sre.M.runFor k (forSearch code (S l0).cps 0 0 (S l0).cps.size false) = m ∧ m.outcome = some .matched ∧ m.start = 0 ∧ m.handed = 1) ∧
       (∃ k m, k < 2 ^ 64 ∧ Sre.M.runFor k (forSearch code (S l0).cps 0 1 (S l0).cps.size false) = m ∧ m.outcome = some .failed) ∧ res = r.cps.toList ++ l0.drop 1))
    (h : ∀ h' tk t', (∀ b o, s.heap.get? b = some o → h'.get? b = some o) → Q (.str (S res) t') { s with heap := h', toks := tk }) :
    wpAny (model prog w) A (call (.builtin "re.Pattern.sub") [.ref P, .str r u, .str (S l0) t]) Q E s := by
  refine wpAny_call (codeAny_call_builtin slot_pat_sub.plain entry_pat_sub (slot_pat_sub.check _ _ _ _ _ _ _ _ hp.typeIs (args_pat_sub _ _ _) ?_))
  unfold Builtin.«re.Pattern.sub» reSubstitute
  dsimp only
  rw [reNamed_two]
  refine wpAny_bind (wpAny_pure ?_)
  dsimp only
  refine wpAny_bind (wpAny_pure ?_)
  refine wpAny_bind (wpAny_specialOf (typeIs_str _ _ _) str_nocall ?_)
  rw [if_neg (by simp)]
  refine wpAny_bind (show wpAny _ _ (asStr? (.str r u)) _ _ _ from wpAny_pure ?_)
  dsimp only
  refine wpAny_bind (wpAny_pure ?_)
  rw [if_neg (by simp), hr, if_pos (by simp)]
  refine wpAny_bind (wpAny_pure ?_)
  dsimp only
  refine wpAny_bind (wpAny_holding (wpAny_reWholeTarget hp ?_))
  rw [if_neg (by simp)]
  refine wpAny_bind (wpAny_newObj_type ?_)
  refine wpAny_pure ⟨Code.quiet_builtin _ (by decide +kernel), ?_⟩
  have hp' : IsPat (s.heap.push { cls := .type "list", data := .seq #[] }) P code := by
    obtain ⟨a, b, c, d, cT, u, v, sl, hP, ct, dd, xs, n, sl2, hc, hx⟩ := hp.at_
    exact ⟨a, b, c, d, cT, u, v, sl, Heap.get?_push_of_some _ hP, ct, dd, xs, n, sl2, Heap.get?_push_of_some _ hc, hx⟩
  have hD : (s.heap.push { cls := .type "list", data := .seq #[] }).get? s.heap.objs.size = some ⟨.type "list", none, .seq #[] 0, #[]⟩ := Heap.get?_push_size _ rfl
  have hkeep : ∀ b o, s.heap.get? b = some o → b ≠ s.heap.objs.size ∧ (s.heap.push { cls := .type "list", data := .seq #[] }).get? b = some o := fun b o e => ⟨Nat.ne_of_lt (Heap.lt_size e), Heap.get?_push_of_some _ e⟩
  generalize hH : s.heap.push { cls := .type "list", data := .seq #[] } = H at hp' hD hkeep
  rcases hs with ⟨hs, rfl⟩ | ⟨⟨k, m, hk, hm, ho, hst, hh⟩, hs, rfl⟩
  · exact loop_end (s := { s with heap := H }) (l := []) (done := 0) (start := 0) hp' hD (by simp) (by simp; omega) hs fun h' tk t' hk' => h h' tk t' fun b o e => hk' b o (hkeep b o e).1 (hkeep b o e).2
  · refine codeAny_plain entry_subloop plain_subloop ?_
    unfold Builtin.«re.Pattern.sub.loop»
    dsimp only [rawInt]
    refine wpAny_bind (wpAny_reWholeTarget (s := { s with heap := H }) hp' ?_)
    rw [if_pos (show ((0 : Int) == 0) = true from rfl)]
    refine wpAny_bind (show wpAny _ _ (reLiteralCannotBeTurned (.str r u)) _ _ _ from wpAny_pure ?_)
    rw [if_neg (by simp)]
    refine wpAny_bind (wpAny_reRunToEnd (n := k) hk (.inl ⟨by show (Sre.M.runFor k (forSearch code (S l0).cps 0 0 (S l0).cps.size false)).outcome = _; rw [hm]; exact ho, ?_⟩))
    have hm' : Sre.M.runFor k (forSearch code (S l0).cps 0 (0 : Int).toNat (S l0).cps.size false) = m := hm
    dsimp only
    rw [hm']
    rw [hst, hh, if_neg (by simp)]
    rw [if_pos (show ((0 : Int) == 0) = true from rfl)]
    refine wpAny_bind (wpAny_pure ?_)
    rw [if_pos (by simp)]
    refine wpAny_bind (push_list (s := { s with heap := H }) hD (by simp) fun h' hD' hk' => ?_)
    refine wpAny_pure ⟨Code.quiet_builtin _ (by decide +kernel), ?_⟩
    have hp2 : IsPat h' P code := by
      obtain ⟨a, b, c, d, cT, u, v, sl, hP, ct, dd, xs, n, sl2, hc, hx⟩ := hp.at_
      have z := fun b o e => hk' b o (hkeep b o e).1 (hkeep b o e).2
      exact ⟨a, b, c, d, cT, u, v, sl, z _ _ hP, ct, dd, xs, n, sl2, z _ _ hc, hx⟩
    refine loop_end (s := { s with heap := h' }) (l := [(r, u)]) (n := 0 + 1) (done := 1) (start := 1) (nn := 0 + 1) hp2 (by simpa [strValues] using hD') (by simp) (by simp [PySem.Str.length] at hr2 ⊢; omega) hs fun h2 tk t' hk2 => ?_
    have := h h2 tk t' fun b o e => hk2 b o (hkeep b o e).1 (hk' b o (hkeep b o e).1 (hkeep b o e).2)
    simpa using this
end

theorem isPat_K {K : Frag} {h : Heap} {P cT : Addr} {a b c d : Value} {u v n : Nat} {sl sl2 : Array (Option Value)} {ct : Value} {dd : Option Addr} {xs : Array Value} {code : Array Nat} (X : K.In h)
    (e1 : K.lookup P = some ⟨.type "re.Pattern", none, .fields #[a, b, .int 0 u, c, d, .ref cT, .int 0 v], sl⟩) (e2 : K.lookup cT = some ⟨ct, dd, .seq xs n, sl2⟩) (e3 : (xs.map reRawOf).map (·.toNat) = code) : IsPat h P code :=
  ⟨a, b, c, d, cT, u, v, sl, X _ _ e1, ct, dd, xs, n, sl2, X _ _ e2, e3⟩
def qd (l : List Nat) : List Nat := if l.head? = some 46 then 46 :: l else l
section
variable {prog : Program} {w : World} {A : Around} {E : Value → Shared → Prop} {s : Shared} {h₀ : Heap} {L : Addr} {m : PySem.Str → Option Value} {news : List (Addr × Obj)} {P : Addr} {l : List Nat} {t u : Tok} {Q : Value → Shared → Prop} {r : PySem.Str}
theorem getD_S {l : List Nat} {c : Nat} (hc : c ≠ 0) (h : c ∉ l) (i : Nat) : (S l).cps.getD i 0 ≠ c := by
  intro e
  rw [Array.getD_eq_getD_getElem?] at e
  cases q : (S l).cps[i]? with
  | none => rw [q] at e; exact hc e.symm
  | some x =>
    rw [q] at e
    have : x = c := e
    subst this
    exact h (by have := List.mem_of_getElem? (l := l) (i := i) (a := x) (by simpa [S] using q); exact this)
theorem sub_B (hp : IsPat s.heap P codeB) (hl : l.length ≤ 1000000) (h10 : 10 ∉ l) (h13 : 13 ∉ l) (hr : r.cps.contains 92 = false) (hr2 : r.length ≤ 1000) (F : Fr h₀ L s.heap m) (N : News h₀ L s.heap news)
    (h : ∀ h' tk t', Fr h₀ L h' m → News h₀ L h' news → Q (.str (S l) t') { s with heap := h', toks := tk }) : wpAny (model prog w) A (call (.builtin "re.Pattern.sub") [.ref P, .str r u, .str (S l) t]) Q E s := by
  obtain ⟨m1, h1, h2⟩ := searchB_none (text := (S l).cps) (fun i => ⟨getD_S (by decide) h10 i, getD_S (by decide) h13 i⟩) 0
  exact sub_call hp hl hr hr2 (.inl ⟨⟨1, m1, by decide, h1, h2⟩, rfl⟩) fun h' tk t' hk => h h' tk t' (F.keeps hk) fun p hp => ⟨hk _ _ (N p hp).1, (N p hp).2⟩
theorem sub_A (hp : IsPat s.heap P codeA) (hl : l.length ≤ 1000000) (h10 : 10 ∉ l) (er : r = S [46, 46]) (F : Fr h₀ L s.heap m) (N : News h₀ L s.heap news)
    (h : ∀ h' tk t', Fr h₀ L h' m → News h₀ L h' news → Q (.str (S (qd l)) t') { s with heap := h', toks := tk }) : wpAny (model prog w) A (call (.builtin "re.Pattern.sub") [.ref P, .str r u, .str (S l) t]) Q E s := by
  subst er
  have hsz : (S l).cps.size = l.length := by simp [S]
  have hno := fun i => getD_S (l := l) (c := 10) (by decide) h10 i
  have fin : ∀ h' tk t', (∀ b o, s.heap.get? b = some o → h'.get? b = some o) → Q (.str (S (qd l)) t') { s with heap := h', toks := tk } :=
    fun h' tk t' hk => h h' tk t' (F.keeps hk) fun p hp => ⟨hk _ _ (N p hp).1, (N p hp).2⟩
  by_cases hd : l.head? = some 46
  · obtain ⟨m1, h1, h2, h3, h4⟩ := searchA_dot (text := (S l).cps) (by cases l with | nil => cases hd | cons a l => simp at hd; subst hd; simp [S])
    obtain ⟨n2, m2, hn, h5, h6⟩ := searchA_none (text := (S l).cps) hno 1 (.inl (by decide))
    refine sub_call (res := qd l) hp hl (by decide +kernel) (by decide) (.inr ⟨⟨5, m1, by decide, h1, h2, h3, h4⟩, ⟨n2, m2, by rw [hsz] at hn; omega, h5, h6⟩, ?_⟩) fin
    cases l with
    | nil => cases hd
    | cons a l => simp at hd; subst hd; rfl
  · obtain ⟨n2, m2, hn, h5, h6⟩ := searchA_none (text := (S l).cps) hno 0 (.inr (by cases l with | nil => simp [S] | cons a l => simpa [S] using hd))
    exact sub_call (res := qd l) hp hl (by decide +kernel) (by decide) (.inl ⟨⟨n2, m2, by rw [hsz] at hn; omega, h5, h6⟩, by simp [qd, hd]⟩) fin
end
end Mine
end SSubRule
section SLib2
open PySem PySem.W PyProof.Rows PySem.Calls
set_option Elab.async false
set_option maxRecDepth 100000
namespace Mine
theorem S_rev (l : List Nat) (u : Tok) : Txt.sliceBy (S l) none none (-1, u) = S l.reverse := by
  have h := step_rev_list (S l) u
  have hlen : (S l).length = l.length := S_len l
  rw [S_eq (Txt.sliceBy (S l) none none (-1, u)), h]
  congr 2
  apply List.ext_getElem?
  intro i
  rw [List.getElem?_map, hlen]
  by_cases hi : i < l.length
  · rw [List.getElem?_range hi, List.getElem?_reverse hi]
    simp only [Option.map_some]
    rw [Array.getD_eq_getD_getElem?]
    have : (S l).cps[l.length - 1 - i]? = l[l.length - 1 - i]? := by simp [S]
    rw [this, List.getElem?_eq_getElem (by omega)]; rfl
  · rw [List.getElem?_eq_none (by simp; omega), List.getElem?_eq_none (by simp; omega)]; rfl

theorem head_off {c d : Addr} {o : Obj} {l : List (Addr × Obj)} (h : c ≠ d) (off : ∀ p ∈ l, p.1 ≠ c) : ∀ p ∈ (d, o) :: l, p.1 ≠ c := List.forall_mem_cons.mpr ⟨h.symm, off⟩
theorem allLt_ne1 {d : Addr} {l : List (Addr × Obj)} (h : AllLt d l) : ∀ p ∈ l, p.1 ≠ d + 1 := fun p hp => Nat.ne_of_lt (Nat.lt_succ_of_lt (PySem.W.kst_ltOf h p hp))
theorem allLt_ne2 {d : Addr} {l : List (Addr × Obj)} (h : AllLt d l) : ∀ p ∈ l, p.1 ≠ d + 2 := fun p hp => Nat.ne_of_lt (Nat.lt_succ_of_lt (Nat.lt_succ_of_lt (PySem.W.kst_ltOf h p hp)))
theorem allLt_lt {d e : Addr} {l : List (Addr × Obj)} (h : AllLt d l) (h2 : d < e) : ∀ p ∈ l, p.1 ≠ e := fun p hp => Nat.ne_of_lt (Nat.lt_trans (PySem.W.kst_ltOf h p hp) h2)
theorem off_nil {l : List (Addr × Obj)} : OwnOff l [] := fun _ _ _ hb => nomatch hb
theorem off_adr {l : List (Addr × Obj)} {b : Addr} {bs : List Addr} (h1 : ∀ p ∈ l, p.1 ≠ b) (h2 : OwnOff l bs) : OwnOff l (b :: bs) := fun p hp c hc => by
  rcases List.mem_cons.mp hc with e | hc
  · rw [e]; exact h1 p hp
  · exact h2 p hp c hc
theorem off_empty {bs : List Addr} : OwnOff [] bs := fun _ hp => nomatch hp
theorem off_cons {p : Addr × Obj} {l : List (Addr × Obj)} {bs : List Addr} (h1 : ∀ b ∈ bs, p.1 ≠ b) (h2 : OwnOff l bs) : OwnOff (p :: l) bs := fun q hq c hc => by
  rcases List.mem_cons.mp hq with e | hq
  · rw [e]; exact h1 c hc
  · exact h2 q hq c hc
theorem off_sub {l : List (Addr × Obj)} {bs cs : List Addr} (h : OwnOff l bs) (hs : ∀ c ∈ cs, c ∈ bs) : OwnOff l cs := fun p hp c hc => h p hp c (hs c hc)
def ones (l : List Nat) : List PySem.Str := l.map fun c => S [c]
section
variable {prog : Program} {w : World} {A : Around} {E : Value → Shared → Prop} {s : Shared} {h₀ : Heap} {L : Addr} {m : PySem.Str → Option Value} {news : List (Addr × Obj)} {Q : Value → Shared → Prop}
theorem list_strN {l : List Nat} {t : Tok} (hh : A.handled = none) (F : Fr h₀ L s.heap m) (N : News h₀ L s.heap news) (hl : l.length ≤ 1000000)
    (h : ∀ D h' tk (ys : List (PySem.Str × Tok)) c, Fr h₀ L h' m → News h₀ L h' ((D, listOf (strValues ys).toArray c) :: news) → (∀ p ∈ news, p.1 < D) → ys.map (·.1) = ones l → Q (.ref D) { s with heap := h', toks := tk }) :
    wpAny (model prog w) A (call (.type "list") [.str (S l) t]) Q E s := by
  refine call_list_str hh (S l) t (hn := by rw [sizeLine_eq]; simp [S]; omega) fun h' tk acc' c' hk hS' hacc => ?_
  have hsz : acc'.size = l.length := by have := hacc.1; simpa [S] using this
  have key : ∀ (n : Nat), n ≤ l.length → ∃ ys : List (PySem.Str × Tok), acc'.toList.take n = strValues ys ∧ ys.map (·.1) = ones (l.take n) := by
    intro n
    induction n with
    | zero => intro _; exact ⟨[], by simp [strValues], by simp [ones]⟩
    | succ n ih =>
      intro hn
      obtain ⟨ys, e1, e2⟩ := ih (by omega)
      have hlt : n < acc'.size := by omega
      obtain ⟨c, u, hc, hv⟩ := hacc.2 n acc'[n] (by simp [hlt])
      have hc' : l[n]? = some c := by simpa [S] using hc
      refine ⟨ys ++ [(S [c], u)], ?_, ?_⟩
      · rw [List.take_add_one, e1, Array.getElem?_toList]
        simp [strValues, hlt, hv, S]
      · rw [List.map_append, e2, List.take_add_one, hc']; simp [ones]
  obtain ⟨ys, e1, e2⟩ := key l.length (Nat.le_refl _)
  rw [List.take_of_length_le (by simp; omega)] at e1
  rw [List.take_length] at e2
  have e3 : acc' = (strValues ys).toArray := by apply Array.toList_inj.mp; simp [e1]
  subst e3
  have F' := F.keeps hk
  refine h _ h' tk ys c' F' ?_ (fun p hp => Heap.lt_size (N p hp).1) e2
  intro p hp
  rcases List.mem_cons.mp hp with rfl | hp
  · refine ⟨hS', ?_, ?_⟩
    · obtain ⟨oL, _, _, hL, _⟩ := F.ns
      exact Nat.ne_of_gt (Heap.lt_size hL)
    · cases q : h₀.get? s.heap.objs.size with
      | none => rfl
      | some o => exact absurd (Heap.lt_size (F.keep _ _ q)) (Nat.lt_irrefl _)
  · exact ⟨hk _ _ (N p hp).1, (N p hp).2⟩
end

theorem last_strs (ys : List (PySem.Str × Tok)) (y : PySem.Str) (ty : Tok) : kl_last (strValues (ys ++ [(y, ty)])) = some (strValues ys, .str y ty) := by
  have : strValues (ys ++ [(y, ty)]) = strValues ys ++ [.str y ty] := by simp [strValues]
  rw [this]; exact kpa_last _ _
theorem cut_strs (ys : List (PySem.Str × Tok)) (y : PySem.Str) (ty : Tok) : kl_cut (strValues ((y, ty) :: ys)) 0 = some ([], .str y ty, strValues ys) := rfl
section
variable {prog : Program} {w : World} {A : Around} {E : Value → Shared → Prop} {s : Shared} {h₀ : Heap} {L : Addr} {m : PySem.Str → Option Value} {news : List (Addr × Obj)} {Q : Value → Shared → Prop}
theorem ne_lens {l b : Addr} {its its2 : Array Value} {n n2 : Nat} (N : News h₀ L s.heap news) (h1 : (l, listOf its n) ∈ news) (h2 : (b, listOf its2 n2) ∈ news) (hne : (its.size != its2.size) = true) (hu : A.units < cLine) (h : Q (.bool true) s) :
    wpAny (model prog w) A (compareOp .NotEq (.ref l) (.ref b)) Q E s :=
  cmp_ofNotEq (PySem.SeqAt.RcNeAt.lists_lengths ⟨_, (N _ h1).1, rfl, _, rfl⟩ ⟨_, (N _ h2).1, rfl, _, rfl⟩ hne hu _ _ _ _ h)
theorem truthyN_cons {l : Addr} {q : PySem.Str × Tok} {qs : List (PySem.Str × Tok)} {n : Nat} {Q : Bool → Shared → Prop} (N : News h₀ L s.heap news) (h1 : (l, listOf (strValues (q :: qs)).toArray n) ∈ news) (hz : qs.length ≤ 1000000) (h : Q true { s with toks := s.toks + 1 + 1 }) :
    wpAny (model prog w) A (truthy (.ref l)) Q E s :=
  wpAny_truthy_list ⟨_, (N _ h1).1, rfl, _, rfl⟩ (by simp [strValues]; omega) h
theorem truthyN_nil {l : Addr} {n : Nat} {Q : Bool → Shared → Prop} (N : News h₀ L s.heap news) (h1 : (l, listOf (strValues []).toArray n) ∈ news) (h : Q false { s with toks := s.toks + 1 + 1 }) :
    wpAny (model prog w) A (truthy (.ref l)) Q E s :=
  wpAny_truthy_list ⟨_, (N _ h1).1, rfl, _, rfl⟩ (by simp [strValues]) h
end
end Mine
end SLib2
section SWhl1
open PySem PySem.W PyProof.Rows PySem.Calls
set_option Elab.async false
set_option maxRecDepth 100000
set_option maxHeartbeats 8000000
set_option pp.maxSteps 400
set_option autoImplicit false
namespace Mine
section
variable {prog : Program} {w : World} {A : Around} {env : Env} {h₀ : Heap} {s : Shared} {E : Value → Shared → Prop} {news : List (Addr × Obj)} {m : PySem.Str → Option Value}
/-- where a while loop stands -/
inductive WSt (env : Env) (h₀ : Heap) (news : List (Addr × Obj)) (Inv : Nat → (PySem.Str → Option Value) → Prop) (s : Shared) (n : Nat) (s' : Shared) : Prop
  | mk (h' : Heap) (tk : Nat) (m' : PySem.Str → Option Value)
    (c0 : s' = { s with heap := h', toks := tk })
    (c1 : 1 ≤ tk)
    (c2 : Inv n m')
    (c3 : Fr h₀ env.locals h' m')
    (c4 : News h₀ env.locals h' news) : WSt env h₀ news Inv s n s'
/-- what a turn leaves -/
def WTurn (env : Env) (h₀ : Heap) (news : List (Addr × Obj)) (Inv : Nat → (PySem.Str → Option Value) → Prop) (s : Shared) (n : Nat) (Q : Flow → Shared → Prop) (f : Flow) (s' : Shared) : Prop := match f with
  | .ret v => Q (.ret v) s'
  | .brk => Q .next s'
  | _ => ∃ k, k < n ∧ WSt env h₀ news Inv s k s'
theorem whileN {Inv : Nat → (PySem.Str → Option Value) → Prop} {Q : Flow → Shared → Prop} {test : Expr} {body : List Stmt} {pos : Pos} {n : Nat} (F : Fr h₀ env.locals s.heap m) (N : News h₀ env.locals s.heap news) (ht : 1 ≤ s.toks) (hi : Inv n m)
    (turn : ∀ n h tk m, 1 ≤ tk → Inv n m → Fr h₀ env.locals h m → News h₀ env.locals h news → ∀ E' : Value → Shared → Prop,
      wpAny (model prog w) A (isTrue test env (eval test env)) (fun b s₂ => if b = true then wpAny (model prog w) A (execs body env) (WTurn env h₀ news Inv s n Q) E' s₂ else Q .next s₂) E' { s with heap := h, toks := tk }) :
    wpAny (model prog w) A (exec (.While test body [] pos) env) Q E s := by
  refine wpAny_While (codeAny_whileLoop (WSt env h₀ news Inv s) ?_ n ⟨s.heap, s.toks, m, rfl, ht, hi, F, N⟩)
  rintro n s' ⟨h', tk, m', rfl, htk, hi', F', N'⟩
  refine wpAny_mono (turn n h' tk m' htk hi' F' N' _) (fun b s₂ hb => ?_) fun _ _ e => e
  cases b with
  | true =>
    rw [if_pos rfl] at hb ⊢
    refine wpAny_mono hb (fun f s₃ hf => ?_) fun _ _ e => e
    cases f <;> exact hf
  | false =>
    rw [if_neg (by simp)] at hb ⊢
    exact wpAny_execs_nil hb
end
end Mine
end SWhl1
section SCntP1
open PySem PySem.W PyProof.Rows PySem.Calls
set_option Elab.async false
set_option maxRecDepth 100000
set_option maxHeartbeats 8000000
set_option pp.maxSteps 400
set_option autoImplicit false
namespace Mine
theorem mp1 {m : PySem.Str → Option Value} {k1 : PySem.Str} {v1 : Value} (h1 : m k1 = some v1) : m = fun y => if y = k1 then some v1 else m y := by
  funext y
  by_cases e1 : y = k1
  · rw [if_pos e1, e1, h1]
  · rw [if_neg e1]
theorem mp2 {m : PySem.Str → Option Value} {k1 k2 : PySem.Str} {v1 v2 : Value} (h1 : m k1 = some v1) (h2 : m k2 = some v2) : m = fun y => if y = k1 then some v1 else if y = k2 then some v2 else m y := by
  funext y
  by_cases e1 : y = k1
  · rw [if_pos e1, e1, h1]
  · rw [if_neg e1]; exact congrFun (mp1 h2) y
theorem mp3 {m : PySem.Str → Option Value} {k1 k2 k3 : PySem.Str} {v1 v2 v3 : Value} (h1 : m k1 = some v1) (h2 : m k2 = some v2) (h3 : m k3 = some v3) : m = fun y => if y = k1 then some v1 else if y = k2 then some v2 else if y = k3 then some v3 else m y := by
  funext y
  by_cases e1 : y = k1
  · rw [if_pos e1, e1, h1]
  · rw [if_neg e1]; exact congrFun (mp2 h2 h3) y
theorem slice_in (l : List Nat) (i j : Nat) (h1 : i ≤ j) (h2 : j ≤ l.length) : Txt.slice (S l) (some (i : Int)) (some (j : Int)) = S ((l.drop i).take (j - i)) := by
  have := eq_of_beq (slice_closesL (x := S l) (i := (i : Int)) (j := (j : Int)) (by omega) (by omega) (by rw [S_len]; omega))
  rw [this]
  show (⟨_⟩ : PySem.Str) = ⟨_⟩
  congr 3
  omega
theorem slice_from (l : List Nat) (i : Nat) (h : i ≤ l.length) : Txt.slice (S l) (some (i : Int)) none = S (l.drop i) := by
  have := eq_of_beq (slice_closes_fromL (x := S l) (i := (i : Int)) (b := (l.length : Int)) (by omega) (by rw [S_len]; omega) (by rw [S_len]))
  rw [this]
  show (⟨_⟩ : PySem.Str) = ⟨_⟩
  congr 1
  have : ((l.drop i).take ((l.length : Int) - (i : Int)).toNat) = l.drop i := List.take_of_length_le (by rw [List.length_drop]; omega)
  exact congrArg List.toArray this
theorem slice_upto (l : List Nat) (j : Nat) : Txt.slice (S l) none (some (j : Int)) = S (l.take j) := by
  have key : ∀ j : Nat, j ≤ l.length → Txt.slice (S l) none (some (j : Int)) = S (l.take j) := fun j h => by
    have := eq_of_beq (slice_closes_toL (x := S l) (j := (j : Int)) (by omega) (by rw [S_len]; omega))
    rw [this]
    have : ((l.drop (0 : Int).toNat).take ((j : Int) - 0).toNat) = l.take j := by simp
    exact congrArg (fun x => (⟨List.toArray x⟩ : PySem.Str)) this
  by_cases h : j ≤ l.length
  · exact key j h
  · have e : Builtin.Str.strSliceIndices none (some (j : Int)) 1 (S l).length = Builtin.Str.strSliceIndices none (some (l.length : Int)) 1 (S l).length := by
      rw [S_len]
      unfold Builtin.Str.strSliceIndices
      have : max (0 : Int) (min (j : Int) (l.length : Int)) = max (0 : Int) (min (l.length : Int) (l.length : Int)) := by omega
      have h1 : ¬ ((j : Int) < 0) := by omega
      have h2 : ¬ ((l.length : Int) < 0) := by omega
      simp only [h1, h2, if_false, this, show (1 : Int) > 0 by decide, if_true]
    have e2 : Txt.slice (S l) none (some (j : Int)) = Txt.slice (S l) none (some (l.length : Int)) := by
      unfold Txt.slice; rw [e]
    rw [e2, key _ (Nat.le_refl _), List.take_of_length_le (Nat.le_refl _), List.take_of_length_le (by omega)]
def ampN (n : Nat) : List Nat := (List.replicate n [97, 109, 112, 59]).flatten
theorem ampN_succ (n : Nat) : ampN (n + 1) = 97 :: 109 :: 112 :: 59 :: ampN n := by simp [ampN, List.replicate_succ]
def wd (D n : Nat) (r : List Nat) : List Nat := List.replicate D 46 ++ 38 :: (ampN n ++ r)
theorem of_dot : PySem.Str.ofString "." = S [46] := by decide +kernel
theorem of_ampsc : PySem.Str.ofString "amp;" = S [97, 109, 112, 59] := by decide +kernel
theorem S_beq (a b : List Nat) : (S a == S b) = decide (a = b) := by
  by_cases h : a = b
  · subst h; simp
  · have : ¬ S a = S b := fun e => h (S_inj e)
    simp [h, this]
theorem dot_is (D n d : Nat) (r : List Nat) (h : d ≤ D) : (Txt.slice (S (wd D n r)) (some (d : Int)) (some ((d : Int) + 1)) == PySem.Str.ofString ".") = decide (d < D) := by
  have e : ((d : Int) + 1) = ((d + 1 : Nat) : Int) := by omega
  rw [e, slice_in _ _ _ (by omega) (by simp [wd]; omega), of_dot, S_beq]
  have e2 : d + 1 - d = 1 := by omega
  rw [e2]
  congr 1
  apply propext
  rw [wd, List.drop_append]
  by_cases hd : d < D
  · have : D - d = (D - d - 1) + 1 := by omega
    rw [List.drop_replicate, this, List.replicate_succ]
    simp [hd]
  · have : d = D := by omega
    subst this
    simp
theorem rest_is (D n : Nat) (r : List Nat) : Txt.slice (S (wd D n r)) (some ((D : Int) + 1)) none = S (ampN n ++ r) := by
  have e : ((D : Int) + 1) = ((D + 1 : Nat) : Int) := by omega
  rw [e, slice_from _ _ (by simp [wd])]
  congr 1
  rw [wd, show List.replicate D 46 ++ 38 :: (ampN n ++ r) = (List.replicate D 46 ++ [38]) ++ (ampN n ++ r) by simp]
  rw [List.drop_left' (by simp)]
theorem amp_is (j : Nat) (r : List Nat) (hr : r.take 4 ≠ [97, 109, 112, 59]) : (Txt.slice (S (ampN j ++ r)) none (some 4) == PySem.Str.ofString "amp;") = decide (0 < j) := by
  rw [show (4 : Int) = ((4 : Nat) : Int) from rfl, slice_upto, of_ampsc, S_beq]
  congr 1
  apply propext
  cases j with
  | zero => simpa [ampN] using hr
  | succ j => rw [ampN_succ]; simp
theorem amp_rest (j : Nat) (r : List Nat) : Txt.slice (S (ampN (j + 1) ++ r)) (some 4) none = S (ampN j ++ r) := by
  rw [show (4 : Int) = ((4 : Nat) : Int) from rfl, slice_from _ _ (by rw [ampN_succ]; simp), ampN_succ]
  rfl
end Mine
end SCntP1
section SDictLit
open PySem PySem.W PyProof.Rows PySem.Calls
set_option Elab.async false
set_option maxRecDepth 100000
namespace Mine
/-- the texts of a dict display -/
inductive LitKV : List (Option Expr) → List Expr → List (PySem.Str × PySem.Str) → Prop
  | nil : LitKV [] [] []
  | cons {k v : PySem.Str} {a b : Nat} {p q : Pos} {ks vs ps} : LitKV ks vs ps → LitKV (some (.Constant (.str k) a p) :: ks) (.Constant (.str v) b q :: vs) ((k, v) :: ps)
def AreKV : List (PySem.Str × PySem.Str) → List (Value × Value) → Prop
  | [], [] => True
  | p :: ps, v :: vs => (∃ t u, v = (.str p.1 t, .str p.2 u)) ∧ AreKV ps vs
  | _, _ => False
theorem areKV_keys {ps : List (PySem.Str × PySem.Str)} : ∀ {vs}, AreKV ps vs → allStrKeys vs = true ∧ (strPairs vs).map (·.1) = ps.map (·.1) := by
  induction ps with
  | nil =>
    intro vs h
    cases vs with
    | nil => exact ⟨rfl, rfl⟩
    | cons _ _ => exact h.elim
  | cons p ps ih =>
    intro vs h
    cases vs with
    | nil => exact h.elim
    | cons v vs =>
      obtain ⟨⟨t, u, e⟩, h⟩ := h
      subst e
      have := ih h
      exact ⟨this.1, by show p.1 :: (strPairs vs).map (·.1) = p.1 :: ps.map (·.1); rw [this.2]⟩
def nameAt (ps : List (PySem.Str × PySem.Str)) (k : PySem.Str) : Option PySem.Str := (ps.find? fun p => p.1 = k).map (·.2)
theorem areKV_at {ps : List (PySem.Str × PySem.Str)} : ∀ {vs}, AreKV ps vs → ∀ k, (valueAt (strPairs vs) k = none ∧ nameAt ps k = none) ∨ ∃ x u, nameAt ps k = some x ∧ valueAt (strPairs vs) k = some (.str x u) := by
  induction ps with
  | nil =>
    intro vs h k
    cases vs with
    | nil => exact .inl ⟨rfl, rfl⟩
    | cons _ _ => exact h.elim
  | cons p ps ih =>
    intro vs h k
    cases vs with
    | nil => exact h.elim
    | cons v vs =>
      obtain ⟨⟨t, u, e⟩, h⟩ := h
      subst e
      by_cases hk : p.1 = k
      · refine .inr ⟨p.2, u, ?_, ?_⟩
        · simp [nameAt, hk]
        · show ((List.find? (fun kv : PySem.Str × Value => decide (kv.1 = k)) ((p.1, .str p.2 u) :: strPairs vs)).map (·.2)) = _
          rw [List.find?_cons_of_pos (by simpa using hk)]; rfl
      · have e1 : valueAt (strPairs ((.str p.1 t, .str p.2 u) :: vs)) k = valueAt (strPairs vs) k := by
          show ((List.find? (fun kv : PySem.Str × Value => decide (kv.1 = k)) ((p.1, .str p.2 u) :: strPairs vs)).map (·.2)) = _
          rw [List.find?_cons_of_neg (by simpa using hk)]; rfl
        have e2 : nameAt (p :: ps) k = nameAt ps k := by
          unfold nameAt; rw [List.find?_cons_of_neg (by simpa using hk)]
        rw [e1, e2]; exact ih h k
def NamesOf (prog : Program) (w : World) (o : Obj) (ps : List (PySem.Str × PySem.Str)) : Prop := ∃ vs, AreKV ps vs ∧ o.IsDictOf (strKind prog w) (strPairs vs)
section
variable {prog : Program} {w : World} {A : Around} {E : Value → Shared → Prop} {s : Shared} {h₀ : Heap} {L d : Addr} {m : PySem.Str → Option Value} {news : List (Addr × Obj)} {env : Env} {o : Obj} {ps : List (PySem.Str × PySem.Str)}
theorem evalLits {pos : Pos} {keys : List (Option Expr)} {values : List Expr} (hl : LitKV keys values ps) : ∀ {Q : List (Value × Value) → Shared → Prop} {s : Shared},
    (∀ vs tk, s.toks ≤ tk → AreKV ps vs → Q vs { s with toks := tk }) → wpAny (model prog w) A (evalPairs (pairTrees keys values env pos)) Q E s := by
  induction hl with
  | nil => intro Q s h; exact pairTrees_nil_walk (h [] s.toks (Nat.le_refl _) trivial)
  | cons _ ih =>
    intro Q s h
    refine pairTrees_cons_walk (Constant_str_ (Constant_str_ (ih fun us tk ht hu => ?_)))
    exact h _ tk (Nat.le_trans (Nat.le_add_right _ 2) ht) ⟨⟨_, _, rfl⟩, hu⟩
theorem litKV_len {keys : List (Option Expr)} {values : List Expr} (hl : LitKV keys values ps) : keys.all (·.isSome) = true ∧ keys.length = values.length := by
  induction hl with
  | nil => exact ⟨rfl, rfl⟩
  | cons _ ih => exact ⟨by simp [ih.1], by simp [ih.2]⟩
/-- a dict display of written texts -/
theorem dict_lit {keys : List (Option Expr)} {values : List Expr} {pos : Pos} {Q : Value → Shared → Prop} (F : Fr h₀ L s.heap m) (N : News h₀ L s.heap news) (hbig : h₀.NoLimit) (hl : LitKV keys values ps) (h0 : keys ≠ []) (hlen : keys.length ≤ 15) (hn : (ps.map (·.1)).Nodup)
    (h : ∀ D o h' tk, 1 ≤ tk → Fr h₀ L h' m → News h₀ L h' ((D, o) :: news) → (∀ p ∈ news, p.1 < D) → (D == sysModules) = false → NamesOf prog w o ps → Q (.ref D) { s with heap := h', toks := tk }) :
    wpAny (model prog w) A (eval (.Dict keys values pos) env) Q E s := by
  refine Dict_made_str (s := s) (h₀ := h₀) (L := L) (m := m) (by clear h hn hlen h0; induction hl with | nil => rfl | cons _ ih => exact ih) F (litKV_len hl).1 (litKV_len hl).2 h0 hlen fun F1 => ?_
  refine evalLits hl fun vs tk ht hv => ?_
  have hk := areKV_keys hv
  have hne : vs.length ≠ 0 := by
    intro e
    have : vs = [] := List.length_eq_zero_iff.mp e
    subst this
    cases hl with
    | nil => exact h0 rfl
    | cons _ => exact hv.elim
  refine made_str F N hk.1 (by rw [hk.2]; exact hn) fun h' o F' N' hd => ?_
  exact h _ o h' _ (by show 1 ≤ tk + vs.length; omega) F' N' (fun p hp => Heap.lt_size (N p hp).1) (F.notModules (modules_low hbig)) ⟨vs, hv, hd⟩
theorem names_in {k : PySem.Str} {t : Tok} {Q : Value → Shared → Prop} (N : News h₀ L s.heap news) (hp : (d, o) ∈ news) (hd : NamesOf prog w o ps) (lo : (d == sysModules) = false) (b : Bool) (hb : (nameAt ps k).isSome = b) (h : Q (.bool b) { s with toks := s.toks + 1 }) :
    wpAny (model prog w) A (compareOp .In (.str k t) (.ref d)) Q E s := by
  obtain ⟨vs, hv, hd⟩ := hd
  refine kda_in N hp hd lo (strKind_is _ _ _ _) b ?_ h
  rw [← hb]
  rcases areKV_at hv k with ⟨e1, e2⟩ | ⟨x, u, e1, e2⟩
  · rw [e1, e2]; rfl
  · rw [e1, e2]; rfl
theorem names_item {k x : PySem.Str} {t : Tok} {value slice : PySem.Expr} {Q : Value → Shared → Prop} (N : News h₀ L s.heap news) (hp : (d, o) ∈ news) (hd : NamesOf prog w o ps) (hx : nameAt ps k = some x) (h : ∀ u, Q (.str x u) { s with toks := s.toks + 1 })
    (hs : subscripted slice false (.ref d) (.str k t) = operate [.ref d, .str k t] (getItem (.ref d) (.str k t)) := by with_unfolding_all rfl) (hg : ∀ r, letTemporaryGo value (.ref d) r = pure () := by intro _; with_unfolding_all rfl) :
    wpAny (model prog w) A (subscriptTail value slice (.ref d) (.str k t)) Q E s := by
  obtain ⟨vs, hv, hd⟩ := hd
  rcases areKV_at hv k with ⟨e1, e2⟩ | ⟨x', u, e1, e2⟩
  · rw [e2] at hx; cases hx
  · rw [e1] at hx; cases hx
    exact kda_item N hp hd (strKind_is _ _ _ _) e2 (h u) hs hg
end
end Mine
namespace Mine
section
variable {prog : Program} {w : World} {A : Around} {E : Value → Shared → Prop} {s : Shared} {h₀ : Heap} {L l : Addr} {news : List (Addr × Obj)}
/-- an item of a written list at a place -/
theorem menu_item {value slice : PySem.Expr} {vs : List Value} {n : Nat} {k : Int} {u : Tok} {v : Value} {Q : Value → Shared → Prop} (N : News h₀ L s.heap news) (hm : (l, listOf vs.toArray n) ∈ news) (h0 : 0 ≤ k) (hhi : k < 2 ^ 63) (hx : vs[k.toNat]? = some v) (h : Q v s)
    (hs : subscripted slice false (.ref l) (.int k u) = operate [.ref l, .int k u] (getItem (.ref l) (.int k u)) := by with_unfolding_all rfl) (hg : ∀ r, letTemporaryGo value (.ref l) r = pure () := by intro _; with_unfolding_all rfl) :
    wpAny (model prog w) A (subscriptTail value slice (.ref l) (.int k u)) Q E s := by
  have hl : s.heap.IsList l vs.toArray := ⟨_, (N _ hm).1, rfl, _, rfl⟩
  exact subscriptTail_builtin hl.typeIs slot_list_getitem.lookup (wpAny_getItem_list hl h0 hhi (by simpa using hx) h) hs hg
end
end Mine
namespace Mine
section
variable {prog : Program} {w : World} {A : Around} {E : Value → Shared → Prop} {s : Shared}
/-- a sign of a text at a place -/
theorem txt_item {value slice : PySem.Expr} {x : PySem.Str} {t u : Tok} {l : List Nat} {i : Int} {Q : Value → Shared → Prop} (k : Nat) (hx : x = S l) (hk : i = (k : Int)) (hi : k < l.length) (hz : l.length ≤ 1000000) (h : Q (.str (S [l.getD k 0]) s.toks) { s with toks := s.toks + 1 })
    (hs : subscripted slice false (.str x t) (.int i u) = operate [.str x t, .int i u] (getItem (.str x t) (.int i u)) := by with_unfolding_all rfl) (hg : ∀ r, letTemporaryGo value (.str x t) r = pure () := by intro _; with_unfolding_all rfl) :
    wpAny (model prog w) A (subscriptTail value slice (.str x t) (.int i u)) Q E s := by
  subst hx hk
  refine subscriptTail_builtin (typeIs_str s _ t) PySem.F.slot_str_getitem.lookup (P.getItem_str (c := l.getD k 0) ?_ ?_ h) hs hg
  · simp only [Bool.or_eq_false_iff, decide_eq_false_iff_not]; omega
  · have e : seqIndex? (k : Int) (S l).length = some k := by
      unfold seqIndex?
      rw [S_len]
      simp
      omega
    rw [e]
    show (S l).cps[k]? = some (l.getD k 0)
    simp [List.getD, hi]
end
theorem fdm (n a b : Nat) : ((n : Int).fdiv (a : Int)).fmod (b : Int) = ((n / a % b : Nat) : Int) := by
  rw [Int.fdiv_eq_ediv_of_nonneg _ (Int.natCast_nonneg a), Int.fmod_eq_emod_of_nonneg _ (Int.natCast_nonneg b)]; rfl
theorem fmn (n b : Nat) : (n : Int).fmod (b : Int) = ((n % b : Nat) : Int) := by
  rw [Int.fmod_eq_emod_of_nonneg _ (Int.natCast_nonneg b)]; rfl
end Mine
end SDictLit
section SIterRule
open PySem PySem.W PyProof.Rows PySem.Calls
set_option Elab.async false
set_option maxRecDepth 100000
namespace Mine
open PySem.Builtin
theorem slot_ci_next : Slot "callable_iterator" "__next__" "callable_iterator.__next__" :=
  .of (owner := "callable_iterator") (n := "__next__") (by rw [typeLookup_type, builtinLookup_eq_fast]; kernel_rfl) (by decide +kernel) (by decide +kernel) (by decide +kernel)
    (by first | exact .inl (by decide +kernel) | exact .inr (by decide +kernel)) (by rw [isSubtype_type]; kernel_rfl)
theorem entry_ci_next : entryFor table "callable_iterator.__next__" = some Builtin.«callable_iterator.__next__» := entryFor_of_tree (by kernel_rfl)
theorem args_ci_next (a : Value) : argsOk "callable_iterator.__next__" ⟨[a], []⟩ := by unfold argsOk; kernel_rfl
theorem slot_ci_iter : Slot "callable_iterator" "__iter__" "callable_iterator.__iter__" :=
  .of (owner := "callable_iterator") (n := "__iter__") (by rw [typeLookup_type, builtinLookup_eq_fast]; kernel_rfl) (by decide +kernel) (by decide +kernel) (by decide +kernel)
    (by first | exact .inl (by decide +kernel) | exact .inr (by decide +kernel)) (by rw [isSubtype_type]; kernel_rfl)
theorem entry_ci_iter : entryFor table "callable_iterator.__iter__" = some Builtin.«dict_keyiterator.__iter__» :=
  entryFor_alias (id' := "dict_keyiterator.__iter__") (by kernel_rfl) rfl (by decide +kernel) (by kernel_rfl)
theorem args_ci_iter (a : Value) : argsOk "callable_iterator.__iter__" ⟨[a], []⟩ := by unfold argsOk; kernel_rfl

abbrev ciObj (f snt : Value) (over : Bool) : Obj := { cls := .type "callable_iterator", data := .fields #[f, snt, .bool over] }
section
variable {prog : Program} {w : World} {A : Around} {E : Value → Shared → Prop} {s : Shared} {I q x f : Addr}
theorem wpAny_callBorrowed {g : Value} {pos : List Value} {Q : Value → Shared → Prop}
    (hc : codeAny (model prog w) A (.call g ⟨pos, []⟩) (fun r s' => match r with | .ok (.ret v) => Q v s' | .ok _ => False | .error e => E e s') s) :
    wpAny (model prog w) A (callBorrowed g pos) Q E s := fun Γ p hΓ => by
  unfold callBorrowed
  rw [Sem.wp_call]
  refine wpCode_mono (fun r s' h => ?_) (hc _ p rfl (hΓ.enter (.call g ⟨pos, []⟩) none p (by intro x; cases x)))
  cases r with
  | error e => exact h
  | ok fl => cases fl <;> first | exact h | exact h.elim

theorem ci_borrows {Q : Bool → Shared → Prop} {fd : FuncData} {oc : Value} {od : Option Addr} {sl : Array (Option Value)} (hq : s.heap.get? q = some (methodObj (.ref f) (.ref x))) (hf : s.heap.get? f = some ⟨oc, od, .func fd, sl⟩) (h : Q true s) :
    wpAny (model prog w) A (borrowsExactly (.ref q)) Q E s := by
  unfold borrowsExactly
  refine wpAny_bind (wpAny_load hq ?_)
  dsimp only
  rw [if_pos (by rfl)]
  refine wpAny_bind (wpAny_load hf ?_)
  exact wpAny_pure h

theorem ci_calls {Q : Value → Shared → Prop} {fd : FuncData} {oc : Value} {od : Option Addr} {sl : Array (Option Value)} (hq : s.heap.get? q = some (methodObj (.ref f) (.ref x))) (hf : s.heap.get? f = some ⟨oc, od, .func fd, sl⟩)
    (hc : codeAny (model prog w) A (.call (.ref f) ⟨[.ref x], []⟩) (fun r s' => match r with | .ok (.ret v) => Q v s' | .ok _ => False | .error e => E e s') s) :
    wpAny (model prog w) A (callOutOfASlot (.ref q)) Q E s := by
  unfold callOutOfASlot
  refine wpAny_bind (ci_borrows hq hf ?_)
  rw [if_pos rfl]
  exact wpAny_callBorrowed (method_call hq hc)

theorem ci_type {o1 o2 : Value} {b : Bool} (hI : s.heap.get? I = some (ciObj o1 o2 b)) : s.TypeIs (.ref I) "callable_iterator" := ⟨_, hI, rfl⟩
theorem ci_next_item {Q : Option Value → Shared → Prop} {fd : FuncData} {oc : Value} {od : Option Addr} {sl : Array (Option Value)} {tS : Tok} (hI : s.heap.get? I = some (ciObj (.ref q) (.str (S []) tS) false))
    (hq : s.heap.get? q = some (methodObj (.ref f) (.ref x))) (hf : s.heap.get? f = some ⟨oc, od, .func fd, sl⟩)
    (hc : ∀ (E' : Value → Shared → Prop), codeAny (model prog w) A.in1 (.call (.ref f) ⟨[.ref x], []⟩) (fun r s' => match r with
      | .ok (.ret v) => (∃ c l tv, v = .str (S (c :: l)) tv ∧ s'.heap.get? I = some (ciObj (.ref q) (.str (S []) tS) false) ∧ Q (some (.str (S (c :: l)) tv)) s')
      | .ok _ => False | .error e => E' e s') s) :
    wpAny (model prog w) A (pyNext (.ref I)) Q E s := by
  unfold pyNext
  refine wpAny_bind (wpAny_attempt (wpAny_callSpecial?_slot (name := PySem.Str.ofString "__next__") (ci_type hI) slot_ci_next
    (wpAny_call_entry slot_ci_next (ci_type hI) entry_ci_next ?_ (args_ci_next _))))
  show wpAny _ _ (field (.ref I) 2 >>= _) _ _ s
  refine wpAny_bind (wpAny_field hI rfl (x := .bool false) rfl ?_)
  rw [if_neg (show ¬ ((Value.bool false == Value.bool true) = true) from Bool.false_ne_true)]
  refine wpAny_bind (wpAny_field hI rfl (x := .ref q) rfl ?_)
  refine wpAny_bind (wpAny_attempt (ci_calls hq hf ?_))
  refine codeAny_mono (hc fun _ _ => False) fun r s' h => ?_
  cases r with
  | error e => exact h.elim
  | ok fl =>
    cases fl with
    | ret v =>
      obtain ⟨c, l, tv, rfl, hI', hQ⟩ := h
      refine wpAny_bind (wpAny_field hI' rfl (x := .bool false) rfl ?_)
      rw [if_neg (show ¬ ((Value.bool false == Value.bool true) = true) from Bool.false_ne_true)]
      refine wpAny_bind (wpAny_field hI' rfl (x := .str (S []) tS) rfl ?_)
      refine wpAny_bind (wpAny_holding (eqBool_str ?_))
      have hne : (S [] == S (c :: l)) = false := by
        rw [beq_eq_false_iff_ne]; intro e; have := S_inj e; cases this
      rw [hne, if_pos (by rfl)]
      exact wpAny_bind (wpAny_pure (wpAny_pure ⟨_, rfl, wpAny_pure hQ⟩))
    | _ => exact h.elim

theorem wpAny_stopIter {α : Type} {Q : α → Shared → Prop} (hh : A.handled = none)
    (h : ∀ h' e, (∀ b o, s.heap.get? b = some o → h'.get? b = some o) → ({ s with heap := h' } : Shared).TypeIs (.ref e) "StopIteration" → E (.ref e) { s with heap := h' }) :
    wpAny (model prog w) A (SmallTypes.stopIteration : Sem α) Q E s := by
  unfold SmallTypes.stopIteration
  refine wpAny_bind ?_
  simp only [newExc, newTuple]
  refine wpAny_bind (wpAny_newObj_type ?_ (by size_fits))
  refine wpAny_bind (m := firstArgMember _ _) (wpAny_of_eq (a := Value.none) (by first | rfl | (simp only [firstArgMember]; rfl)) ?_)
  refine wpAny_newObj_type ?_ (by size_fits)
  simp only [raiseNew]
  refine wpAny_bind (wpAny_handled ?_)
  rw [show A.handled = none from hh]
  refine wpAny_bind (wpAny_pure (wpAny_throw ?_))
  exact h _ _ (fun b o e => Heap.get?_push_of_some _ (Heap.get?_push_of_some _ e)) ⟨_, Heap.get?_push_size _ rfl, rfl⟩
theorem ci_next_over {Q : Option Value → Shared → Prop} {o1 o2 : Value} (hh : A.handled = none) (hI : s.heap.get? I = some (ciObj o1 o2 true))
    (hQ : ∀ h', (∀ b o, s.heap.get? b = some o → h'.get? b = some o) → Q none { s with heap := h' }) :
    wpAny (model prog w) A (pyNext (.ref I)) Q E s := by
  unfold pyNext
  refine wpAny_bind (wpAny_attempt (wpAny_callSpecial?_slot (name := PySem.Str.ofString "__next__") (ci_type hI) slot_ci_next
    (wpAny_call_entry slot_ci_next (ci_type hI) entry_ci_next ?_ (args_ci_next _))))
  show wpAny _ _ (field (.ref I) 2 >>= _) _ _ s
  refine wpAny_bind (wpAny_field hI rfl (x := .bool true) rfl ?_)
  rw [if_pos (by rfl)]
  refine wpAny_bind (wpAny_rule (wpAny_bind (wpAny_stopIter hh fun h' e hk ht => ?_)))
  refine wpAny_bind (wpAny_isInstance ht isSubtype_stop ?_)
  exact wpAny_pure (hQ _ hk)
theorem ci_next_end {Q : Option Value → Shared → Prop} {fd : FuncData} {oc : Value} {od : Option Addr} {sl : Array (Option Value)} {tS : Tok} (hh : A.handled = none) (hI : s.heap.get? I = some (ciObj (.ref q) (.str (S []) tS) false))
    (hq : s.heap.get? q = some (methodObj (.ref f) (.ref x))) (hf : s.heap.get? f = some ⟨oc, od, .func fd, sl⟩)
    (hc : ∀ (E' : Value → Shared → Prop), codeAny (model prog w) A.in1 (.call (.ref f) ⟨[.ref x], []⟩) (fun r s' => match r with
      | .ok (.ret v) => (∃ tv, v = .str (S []) tv ∧ s'.heap.get? I = some (ciObj (.ref q) (.str (S []) tS) false) ∧ s'.heap.get? q = some (methodObj (.ref f) (.ref x)) ∧ s'.heap.get? f = some ⟨oc, od, .func fd, sl⟩ ∧
          (∀ h', h'.get? I = some (ciObj .none .none true) → (∀ b o, b ≠ I → s'.heap.get? b = some o → h'.get? b = some o) → Q none { s' with heap := h' }))
      | .ok _ => False | .error e => E' e s') s) :
    wpAny (model prog w) A (pyNext (.ref I)) Q E s := by
  unfold pyNext
  refine wpAny_bind (wpAny_attempt (wpAny_callSpecial?_slot (name := PySem.Str.ofString "__next__") (ci_type hI) slot_ci_next
    (wpAny_call_entry slot_ci_next (ci_type hI) entry_ci_next ?_ (args_ci_next _))))
  show wpAny _ _ (field (.ref I) 2 >>= _) _ _ s
  refine wpAny_bind (wpAny_field hI rfl (x := .bool false) rfl ?_)
  rw [if_neg (show ¬ ((Value.bool false == Value.bool true) = true) from Bool.false_ne_true)]
  refine wpAny_bind (wpAny_field hI rfl (x := .ref q) rfl ?_)
  refine wpAny_bind (wpAny_attempt (ci_calls hq hf ?_))
  refine codeAny_mono (hc fun _ _ => False) fun r s' h => ?_
  cases r with
  | error e => exact h.elim
  | ok fl =>
    cases fl with
    | ret v =>
      obtain ⟨tv, rfl, hI', hq', hf', hQ⟩ := h
      refine wpAny_bind (wpAny_field hI' rfl (x := .bool false) rfl ?_)
      rw [if_neg (show ¬ ((Value.bool false == Value.bool true) = true) from Bool.false_ne_true)]
      refine wpAny_bind (wpAny_field hI' rfl (x := .str (S []) tS) rfl ?_)
      refine wpAny_bind (wpAny_holding (eqBool_str ?_))
      rw [show (S [] == S []) = true from beq_self_eq_true _, if_neg (by simp)]
      refine wpAny_bind (wpAny_rule ?_)
      show wpAny _ _ ((do
        slotLetsGo "callable_iterator.__next__" (← field (.ref I) 0) _
        setField (.ref I) 0 .none; setField (.ref I) 1 .none; setField (.ref I) 2 (.bool true)) >>= fun _ => SmallTypes.stopIteration) _ _ s'
      refine wpAny_bind (wpAny_bind (wpAny_field hI' rfl (x := .ref q) rfl ?_))
      unfold slotLetsGo
      refine wpAny_bind (wpAny_bind (ci_borrows hq' hf' ?_))
      rw [if_pos rfl]
      refine wpAny_pure ?_
      refine wpAny_bind (wpAny_setField hI' rfl (by simp) ?_)
      refine wpAny_bind (wpAny_setField (s := { s' with heap := _ }) (Heap.get?_update_self _ hI' rfl) rfl (by simp [Obj.mapFields]) ?_)
      refine wpAny_setField (s := { s' with heap := _ }) (Heap.get?_update_self _ (Heap.get?_update_self _ hI' rfl) rfl) rfl (by simp [Obj.mapFields]) ?_
      refine wpAny_stopIter hh fun h' e hk ht => ?_
      refine wpAny_bind (wpAny_isInstance ht isSubtype_stop ?_)
      refine wpAny_pure (hQ h' (hk _ _ ?_) fun b o hb e => hk _ _ ?_)
      · rw [Heap.get?_update_self _ (Heap.get?_update_self _ (Heap.get?_update_self _ hI' rfl) rfl) rfl]; rfl
      · rw [Heap.get?_update_ne _ _ _ _ hb, Heap.get?_update_ne _ _ _ _ hb, Heap.get?_update_ne _ _ _ _ hb]; exact e
    | _ => exact h.elim

theorem method_callable : typeLookup (.type "method") "__call__" = pure (some (.builtin "method.__call__")) := by rw [typeLookup_type, builtinLookup_eq_fast]; kernel_rfl
theorem iter2 {Q : Value → Shared → Prop} {g : Value} {snt : Value} {o : Obj} (hq : s.heap.get? q = some (methodObj g snt)) {v : Value}
    (h : Q (.ref s.heap.objs.size) { s with heap := s.heap.push (ciObj (.ref q) v false) }) :
    wpAny (model prog w) A (call (.builtin "iter") [.ref q, v]) Q E s := by
  refine Calls.call_function_entry (by decide +kernel) (by decide +kernel) PySem.W.kdk_entry_iter (by unfold argsOk; kernel_rfl) ?_
  unfold Builtin.«iter»
  refine wpAny_bind (show wpAny _ _ (someArgs "iter" 1 2 ⟨[.ref q, v], []⟩) _ _ _ from wpAny_pure ?_)
  dsimp only
  refine wpAny_bind (wpAny_specialOf ⟨_, hq, rfl⟩ method_callable ?_)
  rw [if_neg (by simp)]
  refine wpAny_bind (wpAny_rule (wpAny_bind (wpAny_newObj_type ?_)))
  exact wpAny_pure ⟨_, rfl, h⟩
end
end Mine
end SIterRule
section SCompStr
open PySem PySem.W PyProof.Rows PySem.Calls
set_option Elab.async false
set_option maxRecDepth 100000
namespace Mine
section
variable {prog : Program} {w : World} {A : Around} {E : Value → Shared → Prop} {s : Shared} {h₀ : Heap} {L : Addr} {m : PySem.Str → Option Value} {env : Env}
theorem walks_strU (hh : A.handled = none) (I : Addr) (x : PySem.Str) (t : Tok) : Walks prog w A I [I] [I] x.cps.size (SignAt x) (fun i h => h.IsStrIter I (strIterType x) x t i) := by
  cases ha : x.cps.all (· < 128)
  · have : strIterType x = "str_iterator" := by simp [strIterType, ha]
    rw [this]; exact Walks.strWide hh I x t
  · have : strIterType x = "str_ascii_iterator" := by simp [strIterType, ha]
    rw [this]; exact Walks.strAscii hh I x t
/-- what a comprehension over a text wants of its source -/
inductive StrSrc (prog : Program) (w : World) (A : Around) (h₀ : Heap) (L : Addr) (m : PySem.Str → Option Value) (env : Env) (elt : Expr) (x : PySem.Str) (scope : Scope) (cl : List (PySem.Str × Addr)) (Q : Value → Shared → Prop) (xv : Value) (s₁ : Shared) : Prop
  | mk (t : Tok) (l : List Nat) (news : List (Addr × Obj))
    (c0 : xv = .str (S l) t)
    (c1 : A.handled = none)
    (c2 : Fr h₀ L s₁.heap m)
    (c3 : News h₀ L s₁.heap news)
    (c4 : l.length ≤ sizeLine)
    (c5 : ∀ s₂ : Shared, (∃ h, s₂ = { s₁ with heap := h }) → LCg.CompRest prog w A h₀ L m env elt x scope cl s₂ (fun _ => True) (SignAt (S l)) (LCg.FinE h₀ L m s₂ Q) l.length 0 [] news) : StrSrc prog w A h₀ L m env elt x scope cl Q xv s₁
/-- a comprehension over a text -/
theorem comp_str {elt iter : Expr} {x : PySem.Str} {px : Pos} {scope : Scope} {cl : List (PySem.Str × Addr)} {pos : Pos} {Q : Value → Shared → Prop} (_F₀ : Fr h₀ L s.heap m)
    (hclos : closureFor scope env = pure cl) (hcell : ∀ y ∈ scope.names, y.2 ≠ .cell) (hkind : scope.kind = .function)
    (hnames : ∀ y ∈ scope.names, y.2 = .local → scope.names.lookup y.1 = some .local) (hx : scope.names.lookup x = some .local)
    (hs : ∀ x, foldedSetIterable iter env x = pure x)
    (h : wpAny (model prog w) A (eval iter env) (StrSrc prog w A h₀ L m env elt x scope cl Q) E s) :
    wpAny (model prog w) A (eval (.ListComp elt [⟨.Name x px, iter, [], 0⟩] scope pos) env) Q E s := by
  rw [eval_ListComp]
  refine wpAny_comprehension_free (use := none) rfl hs hclos hkind hnames (wpAny_mono h (fun xv s₁ h₁ => ?_) fun _ _ e => e)
  obtain ⟨t, l, news, rfl, hh, F, N, hsz, R⟩ := h₁
  refine wpAny_pyIter_strU ?_
  have hsize : (S l).cps.size = l.length := by simp
  have W := walks_strU (prog := prog) (w := w) hh s₁.heap.objs.size (S l) t
  rw [hsize] at W
  have st : ∀ i (h h' : Heap) (o : Obj) (nw : List (Addr × Obj)), h.IsStrIter s₁.heap.objs.size (strIterType (S l)) (S l) t i → h.get? s₁.heap.objs.size = some o → h'.get? s₁.heap.objs.size = some o → (∀ b o, h₀.get? b = some o → h'.get? b = some o) → News h₀ L h' nw → True → h'.IsStrIter s₁.heap.objs.size (strIterType (S l)) (S l) t i := by
    intro i h h' o nw st e e' _ _ _
    obtain ⟨o2, ho2, r⟩ := st
    rw [ho2] at e; cases e
    exact ⟨_, e', r⟩
  refine LCg.block_U W hsz (fun i h st => by obtain ⟨o, e, _⟩ := st; exact ⟨o, e⟩) st hcell hkind hx ⟨_, Heap.get?_push_size _ rfl, rfl, rfl⟩ (fun b hb => ?_)
    (F.keeps fun _ _ e => Heap.get?_push_of_some _ e) (N.grown fun _ _ e => Heap.get?_push_of_some _ e) (Nat.ne_of_lt F.ns.lt) (next_is_new F) (fun p hp => Nat.ne_of_lt (Heap.lt_size (N p hp).1)) trivial (R _ ⟨_, rfl⟩) ?_
  · rw [List.mem_singleton.mp hb]
    show s₁.heap.objs.size < (s₁.heap.push _).objs.size
    rw [Heap.size_push]; exact Nat.lt_succ_self _
  · intro D C h tk m' ys news' F' N' o1 hn hC₀ hD₀ hCL hDL hCD offC fin
    exact ⟨m', hn, fun h'' hs'' => fin D h'' tk (F'.change hs'' hCL hC₀) (PySem.W.kas_news N' hs'' (head_off hCD offC)) o1⟩
/-- a text comes out, the heap as it was -/
def TxtOut (r : List Nat) (s₀ : Shared) (h : Heap) (y : Value) (s' : Shared) : Prop := ∃ t tk', y = .str (S r) t ∧ s' = { s₀ with heap := h, toks := tk' }
theorem TxtOut.of {r r' : List Nat} {s₀ : Shared} {h : Heap} {t : Tok} {tk : Nat} (e : r' = r) : TxtOut r s₀ h (.str (S r') t) { s₀ with heap := h, toks := tk } := ⟨t, tk, by rw [e], rfl⟩
/-- a turn of such a comprehension gives a text, sign by sign -/
theorem rest_map {elt : Expr} {x : PySem.Str} {scope : Scope} {cl : List (PySem.Str × Addr)} {s₂ : Shared} {news : List (Addr × Obj)} {Fin : List Value → List (Addr × Obj) → Prop} {l : List Nat} (f : Nat → List Nat)
    (turn : ∀ c u I oI C oC D m₂ ys h tk (E' : Value → Shared → Prop), LCg.NsObj oC m₂ → m₂ x = some (.str (S [c]) u) → Fr h₀ L h m → News h₀ L h ((I, oI) :: (C, oC) :: (D, LCg.lst ys) :: news) →
      wpAny (model prog w) A (eval elt (compEnvC scope cl C env)) (TxtOut (f c) s₂ h) E' { s₂ with heap := h, toks := tk })
    (fin : ∀ ys : List (PySem.Str × Tok), ys.map (·.1) = l.map (fun c => S (f c)) → Fin (strValues ys) news) :
    LCg.CompRest prog w A h₀ L m env elt x scope cl s₂ (fun _ => True) (SignAt (S l)) Fin l.length 0 [] news := by
  have key : ∀ k i (ys : List (PySem.Str × Tok)), i + k = l.length → ys.map (·.1) = (l.take i).map (fun c => S (f c)) → LCg.CompRest prog w A h₀ L m env elt x scope cl s₂ (fun _ => True) (SignAt (S l)) Fin k i (strValues ys) news := by
    intro k
    induction k with
    | zero =>
      intro i ys hi hys
      have : i = l.length := by omega
      subst this
      rw [List.take_length] at hys
      exact LCg.CompRest.zero (fin ys hys)
    | succ k ih =>
      intro i ys hi hys
      refine LCg.CompRest.succ fun v I oI C oC D m₂ h tk E' hP hO hm F N off ne => ?_
      obtain ⟨c, u, hc, rfl⟩ := hP
      refine wpAny_mono (turn c u I oI C oC D m₂ _ h tk E' hO hm F N) (fun y s' hy => ?_) fun _ _ e => e
      obtain ⟨t, tk', rfl, rfl⟩ := hy
      refine ⟨h, tk', news, rfl, F, N, off, trivial, ?_⟩
      have hc' : l[i]? = some c := by simpa [S] using hc
      have := ih (i + 1) (ys ++ [(S (f c), t)]) (by omega) (by rw [List.map_append, hys, List.take_add_one, hc']; simp)
      simpa [strValues] using this
  exact key l.length 0 [] (by omega) (by simp)
theorem join_S (ls : List (List Nat)) : Txt.join (S []) (ls.map S) = S ls.flatten := by
  show Builtin.Str.glued (S []) (ls.map S) = _
  rw [StrLaws.glued_eq_join]
  induction ls with
  | nil => rfl
  | cons x r ih =>
    cases r with
    | nil => simp [PySem.Str.join]
    | cons y r =>
      show S x ++ S [] ++ PySem.Str.join (S []) ((y :: r).map S) = _
      rw [ih, S_append, S_append]
      simp
theorem joinM {Q : Value → Shared → Prop} {D : Addr} {ys : List (PySem.Str × Tok)} {ls : List (List Nat)} {t : Tok} {n : Nat} {news : List (Addr × Obj)} (N : News h₀ L s.heap news) (hm : (D, listOf (strValues ys).toArray n) ∈ news) (hys : ys.map (·.1) = ls.map S) (hsz : ls.flatten.length ≤ 1000000)
    (h : ∀ t' k, Q (.str (S ls.flatten) t') { s with toks := k }) : wpAny (model prog w) A (call (.builtin "str.join") [.str (S []) t, .ref D]) Q E s := by
  have hz : ((ls.map S).map (·.length)).sum + (ls.map S).length * (S []).length ≤ 16777216 := by
    have e : (ls.map S).map (·.length) = ls.map List.length := by rw [List.map_map]; exact List.map_congr_left fun l _ => S_len l
    rw [e, S_len]
    simp only [List.length_nil, Nat.mul_zero, Nat.add_zero]
    rw [← List.length_flatten]; omega
  exact SC.join (l := ys) ⟨_, (N _ hm).1, rfl, n, rfl⟩ hys (joinOk_of hz) fun t' k => by rw [join_S]; exact h t' k
end
end Mine
end SCompStr
section SForT
open PySem PySem.W PyProof.Rows PySem.Calls
set_option Elab.async false
set_option maxRecDepth 100000
namespace Mine
section
variable {prog : Program} {w : World} {A : Around} {E : Value → Shared → Prop} {s : Shared} {h₀ : Heap} {L : Addr} {m : PySem.Str → Option Value} {env : Env} {news : List (Addr × Obj)}
/-- an iterator that hands on no tuple of its own -/
def plainIt (T : String) : Bool := !(["enumerate", "zip", "dict_itemiterator", "dict_reverseitemiterator", "odict_iterator", "itertools.zip_longest", "itertools.pairwise"].contains T)
theorem letGo_plain {target : Expr} {I : Addr} {v : Value} {o : Obj} {T : String} {Q : Unit → Shared → Prop} (ho : s.heap.get? I = some o) (hc : o.cls = .type T) (hp : plainIt T = true) (hQ : Q () s) :
    wpAny (model prog w) A (letOwnedTupleGo target (.ref I) v) Q E s := by
  have hp' : (["enumerate", "zip", "dict_itemiterator", "dict_reverseitemiterator", "odict_iterator", "itertools.zip_longest", "itertools.pairwise"].contains T) = false := by
    unfold plainIt at hp; rw [Bool.not_eq_true'] at hp; exact hp
  unfold letOwnedTupleGo
  split
  all_goals (try exact wpAny_pure hQ)
  all_goals
    split
    · rename_i e; cases e
      refine wpAny_bind (wpAny_load ho ?_)
      rw [hc]
      split
      · rename_i e1 _
        cases e1
        rw [hp', Bool.false_and, if_neg (by simp)]
        exact wpAny_pure hQ
      · exact wpAny_pure hQ
    · exact wpAny_pure hQ
/-- where a turn of a for loop ends -/
def FTurn (h₀ : Heap) (L : Addr) (s : Shared) (I : Addr) (oI : Obj) (J : (PySem.Str → Option Value) → List (Addr × Obj) → Prop) (Q : Flow → Shared → Prop) (f : Flow) (s' : Shared) : Prop := match f with
  | .ret v => Q (.ret v) s'
  | .brk => Q .next s'
  | _ => ∃ h' tk m' news', s' = { s with heap := h', toks := tk } ∧ 1 ≤ tk ∧ Fr h₀ L h' m' ∧ News h₀ L h' ((I, oI) :: news') ∧ (∀ p ∈ news', p.1 ≠ I) ∧ J m' news'
theorem FTurn.intro {I : Addr} {oI : Obj} {J : (PySem.Str → Option Value) → List (Addr × Obj) → Prop} {Q : Flow → Shared → Prop} {h' : Heap} {tk : Nat} {m' : PySem.Str → Option Value} {all : List (Addr × Obj)} (news' : List (Addr × Obj)) (F : Fr h₀ L h' m') (N : News h₀ L h' all) (ht : 1 ≤ tk)
    (sub : ∀ p ∈ (I, oI) :: news', p ∈ all) (off : ∀ p ∈ news', p.1 ≠ I) (hj : J m' news') : FTurn h₀ L s I oI J Q .next { s with heap := h', toks := tk } :=
  ⟨h', tk, m', news', rfl, ht, F, fun p hp => N p (sub p hp), off, hj⟩
/-- a for loop at its start: J tells the turns -/
inductive ForAt (prog : Program) (w : World) (A : Around) (h₀ : Heap) (env : Env) (target : Expr) (body : List Stmt) (Q : Flow → Shared → Prop) (it : Value) (s₂ : Shared) : Prop
  | mk (I : Addr) (fp : List Addr) (n : Nat) (P : Nat → Value → Prop) (St : Nat → Heap → Prop) (S : List (Addr × Obj) → Prop) (m : PySem.Str → Option Value) (news : List (Addr × Obj)) (J : Nat → (PySem.Str → Option Value) → List (Addr × Obj) → Prop)
    (c0 : it = .ref I)
    (c1 : Walks prog w A I fp [I] n P St)
    (c2 : (∀ i h, St i h → ∃ o T, h.get? I = some o ∧ o.cls = .type T ∧ plainIt T = true))
    (c3 : (∀ i (h h' : Heap) (o : Obj) (nw : List (Addr × Obj)), St i h → h.get? I = some o → h'.get? I = some o → (∀ b o, h₀.get? b = some o → h'.get? b = some o) → News h₀ env.locals h' nw → S nw → St i h'))
    (c4 : (∀ i m n, J i m n → S n))
    (c5 : 1 ≤ s₂.toks)
    (c6 : St 0 s₂.heap)
    (c7 : Fr h₀ env.locals s₂.heap m)
    (c8 : News h₀ env.locals s₂.heap news)
    (c9 : (∀ p ∈ news, p.1 ≠ I))
    (c10 : env.locals ≠ I)
    (c11 : h₀.get? I = none)
    (c12 : J 0 m news)
    (c13 : (∀ i v m₁ news₁ h tk oI (E' : Value → Shared → Prop), i < n → P i v → J i m₁ news₁ → 1 ≤ tk → Fr h₀ env.locals h m₁ → News h₀ env.locals h ((I, oI) :: news₁) → (∀ p ∈ news₁, p.1 ≠ I) →
      wpAny (model prog w) A (assign target env v) (fun _ s₃ => wpAny (model prog w) A (execs body env) (FTurn h₀ env.locals s₂ I oI (J (i + 1)) Q) E' s₃) E' { s₂ with heap := h, toks := tk }))
    (c14 : (∀ h tk m' news', 1 ≤ tk → J n m' news' → Fr h₀ env.locals h m' → News h₀ env.locals h news' → Q .next { s₂ with heap := h, toks := tk })) : ForAt prog w A h₀ env target body Q it s₂
/-- what a for loop wants of its source -/
def FSrc (prog : Program) (w : World) (A : Around) (E : Value → Shared → Prop) (h₀ : Heap) (env : Env) (target : Expr) (body : List Stmt) (Q : Flow → Shared → Prop) (xv : Value) (s₁ : Shared) : Prop :=
  wpAny (model prog w) A (pyIter xv) (fun it s₂ => ForAt prog w A h₀ env target body Q it s₂) E s₁
inductive FInv (h₀ : Heap) (L : Addr) (s₂ : Shared) (I : Addr) (n : Nat) (St : Nat → Heap → Prop) (J : Nat → (PySem.Str → Option Value) → List (Addr × Obj) → Prop) (k : Nat) (s' : Shared) : Prop
  | mk (h' : Heap) (tk i : Nat) (m' : PySem.Str → Option Value) (news' : List (Addr × Obj)) (c0 : s' = { s₂ with heap := h', toks := tk }) (c1 : 1 ≤ tk) (c2 : St i h') (c3 : Fr h₀ L h' m') (c4 : News h₀ L h' news') (c5 : ∀ p ∈ news', p.1 ≠ I) (c6 : J i m' news') (c7 : i ≤ n) (c8 : k = n + 1 - i) : FInv h₀ L s₂ I n St J k s'
theorem forW {target iter : Expr} {body : List Stmt} {pos : Pos} {Q : Flow → Shared → Prop} (_F₀ : Fr h₀ env.locals s.heap m) (hs : ∀ x, foldedSetIterable iter env x = pure x)
    (h : wpAny (model prog w) A (eval iter env) (FSrc prog w A E h₀ env target body Q) E s) :
    wpAny (model prog w) A (exec (.For target iter body [] pos) env) Q E s := by
  refine wpAny_For (wpAny_mono h (fun xv s₁ h₁ => wpAny_mono h₁ (fun it s₂ h₂ => ?_) fun _ _ e => e) fun _ _ e => e) hs
  obtain ⟨I, fp, n, P, St, S, m, news, J, rfl, W, hIo, hst, hJS, htk, h0, F, N, off, hLI, hI0, hj, turn, done⟩ := h₂
  refine codeAny_forLoop_any (FInv h₀ env.locals s₂ I n St J) ?_ (n + 1)
    ⟨s₂.heap, s₂.toks, 0, m, news, rfl, htk, h0, F, N, off, hj, Nat.zero_le _, rfl⟩
  rintro k s' ⟨h', tk, i, m', news', rfl, htk', hst', F', N', off', hj', hi, rfl⟩
  have next : ∀ h₁ : Heap, (∀ b o, b ∉ [I] → h'.get? b = some o → h₁.get? b = some o) → Fr h₀ env.locals h₁ m' ∧ News h₀ env.locals h₁ news' := fun h₁ hk₁ =>
    ⟨LCg.fr_but F' hk₁ hLI hI0, LCg.news_but N' hk₁ off'⟩
  by_cases hlt : i < n
  · refine wpAny_with_toks (n := 1) htk' (W.item i _ _ _ hlt hst' fun v h₁ tk₁ hP hst₁ hk₁ htk₁ => ?_)
    obtain ⟨F₁, N₁⟩ := next h₁ hk₁
    obtain ⟨oI, T, hoI, hcl, hpl⟩ := hIo _ _ hst₁
    refine letGo_plain hoI hcl hpl ?_
    have N₂ : News h₀ env.locals h₁ ((I, oI) :: news') := fun p hp => by
      rcases List.mem_cons.mp hp with rfl | hp
      · exact ⟨hoI, Ne.symm hLI, hI0⟩
      · exact N₁ p hp
    refine wpAny_mono (turn i v m' news' h₁ tk₁ oI _ hlt hP hj' htk₁ F₁ N₂ off') (fun _ s₃ h₃ => wpAny_mono h₃ (fun f s₄ h₄ => ?_) fun _ _ e => e) fun _ _ e => e
    have key : (∃ h'' tk m'' news'', s₄ = { s₂ with heap := h'', toks := tk } ∧ 1 ≤ tk ∧ Fr h₀ env.locals h'' m'' ∧ News h₀ env.locals h'' ((I, oI) :: news'') ∧ (∀ p ∈ news'', p.1 ≠ I) ∧ J (i + 1) m'' news'') →
        ∃ k', k' < n + 1 - i ∧ FInv h₀ env.locals s₂ I n St J k' s₄ := by
      rintro ⟨h'', tk, m'', news'', rfl, htk, F₂, N₂, off₂, hj₂⟩
      have N₃ : News h₀ env.locals h'' news'' := fun p hp => N₂ p (.tail _ hp)
      exact ⟨n + 1 - (i + 1), by omega, h'', tk, i + 1, m'', news'', rfl, htk, hst _ _ _ _ _ hst₁ hoI (N₂ _ (.head _)).1 F₂.keep N₃ (hJS _ _ _ hj₂), F₂, N₃, off₂, hj₂, hlt, rfl⟩
    cases f with
    | ret v => exact h₄
    | brk => exact h₄
    | cont => exact key h₄
    | next => exact key h₄
  · have hin : i = n := by omega
    subst hin
    refine wpAny_with_toks (n := 1) htk' (W.done _ _ _ hst' fun h₁ tk₁ hk₁ htk₁ => wpAny_execs_nil ?_)
    obtain ⟨F₁, N₁⟩ := next h₁ hk₁
    exact done h₁ tk₁ m' news' htk₁ hj' F₁ N₁
/-- over a list on the ledger -/
theorem forAt_list {target : Expr} {body : List Stmt} {Q : Flow → Shared → Prop} {l : Addr} {vs : List Value} {nn : Nat} (J : Nat → (PySem.Str → Option Value) → List (Addr × Obj) → Prop) (hh : A.handled = none) (F : Fr h₀ env.locals s.heap m) (N : News h₀ env.locals s.heap news) (hm : (l, listOf vs.toArray nn) ∈ news) (ht : 1 ≤ s.toks) (hj : J 0 m news)
    (turn : ∀ I oI i v m₁ news₁ h tk (E' : Value → Shared → Prop), (∀ p ∈ news, p.1 < I) → vs[i]? = some v → J i m₁ news₁ → (l, listOf vs.toArray nn) ∈ news₁ → 1 ≤ tk → Fr h₀ env.locals h m₁ → News h₀ env.locals h ((I, oI) :: news₁) → (∀ p ∈ news₁, p.1 ≠ I) →
      wpAny (model prog w) A (assign target env v) (fun _ s₃ => wpAny (model prog w) A (execs body env) (FTurn h₀ env.locals s I oI (fun m' n' => J (i + 1) m' n' ∧ (l, listOf vs.toArray nn) ∈ n') Q) E' s₃) E' { s with heap := h, toks := tk })
    (done : ∀ h tk m' news', 1 ≤ tk → J vs.length m' news' → Fr h₀ env.locals h m' → News h₀ env.locals h news' → Q .next { s with heap := h, toks := tk }) :
    wpAny (model prog w) A (pyIter (.ref l)) (fun it s₂ => ForAt prog w A h₀ env target body Q it s₂) E s := by
  have hl : s.heap.IsList l vs.toArray := ⟨_, (N _ hm).1, rfl, _, rfl⟩
  have hlt : l < s.heap.objs.size := Heap.lt_size (N _ hm).1
  refine wpAny_pyIter_list hl ?_
  have W := Walks.list (prog := prog) (w := w) hh s.heap.objs.size l (Nat.ne_of_lt hlt) vs.toArray
  refine ⟨s.heap.objs.size, _, _, _, _, fun n => (l, listOf vs.toArray nn) ∈ n, m, news, fun i m' n' => J i m' n' ∧ (l, listOf vs.toArray nn) ∈ n', rfl, W, fun i h st => by obtain ⟨o, e, c, _⟩ := st.1; exact ⟨o, _, e, c, by decide⟩, fun i h h' o nw st e e' hk Nw hS => ?_, fun _ _ _ x => x.2, ht,
    ⟨⟨_, Heap.get?_push_size _ rfl, rfl, rfl⟩, hl.at fun o e => Heap.get?_push_of_some _ e⟩, F.push _, N.grown fun _ _ e => Heap.get?_push_of_some _ e, fun p hp => Nat.ne_of_lt (Heap.lt_size (N p hp).1), Nat.ne_of_lt F.ns.lt, next_is_new F, ⟨hj, hm⟩, ?_, ?_⟩
  · refine ⟨?_, ⟨_, (Nw _ hS).1, rfl, _, rfl⟩⟩
    obtain ⟨o2, ho2, r⟩ := st.1
    rw [ho2] at e; cases e
    exact ⟨_, e', r⟩
  · rintro i v m₁ news₁ h tk oI E' hi hP ⟨hJ, hS⟩ htk F₁ N₁ off
    exact turn _ oI i v m₁ news₁ h tk E' (fun p hp => Heap.lt_size (N p hp).1) (by simpa using hP) hJ hS htk F₁ N₁ off
  · rintro h tk m' news' htk ⟨hJ, hS⟩ F₁ N₁
    exact done h tk m' news' htk (by simpa using hJ) F₁ N₁
/-- over a tuple on the ledger -/
theorem forAt_tuple {target : Expr} {body : List Stmt} {Q : Flow → Shared → Prop} {l : Addr} {vs : List Value} {o : Obj} (J : Nat → (PySem.Str → Option Value) → List (Addr × Obj) → Prop) (hh : A.handled = none) (F : Fr h₀ env.locals s.heap m) (N : News h₀ env.locals s.heap news) (hm : (l, o) ∈ news) (ho : o.cls = .type "tuple" ∧ ∃ n, o.data = .seq vs.toArray n) (ht : 1 ≤ s.toks) (hj : J 0 m news)
    (turn : ∀ I oI i v m₁ news₁ h tk (E' : Value → Shared → Prop), (∀ p ∈ news, p.1 < I) → vs[i]? = some v → J i m₁ news₁ → (l, o) ∈ news₁ → 1 ≤ tk → Fr h₀ env.locals h m₁ → News h₀ env.locals h ((I, oI) :: news₁) → (∀ p ∈ news₁, p.1 ≠ I) →
      wpAny (model prog w) A (assign target env v) (fun _ s₃ => wpAny (model prog w) A (execs body env) (FTurn h₀ env.locals s I oI (fun m' n' => J (i + 1) m' n' ∧ (l, o) ∈ n') Q) E' s₃) E' { s with heap := h, toks := tk })
    (done : ∀ h tk m' news', 1 ≤ tk → J vs.length m' news' → Fr h₀ env.locals h m' → News h₀ env.locals h news' → Q .next { s with heap := h, toks := tk }) :
    wpAny (model prog w) A (pyIter (.ref l)) (fun it s₂ => ForAt prog w A h₀ env target body Q it s₂) E s := by
  have hl : s.heap.IsTuple l vs.toArray := ⟨_, (N _ hm).1, ho⟩
  have hlt : l < s.heap.objs.size := Heap.lt_size (N _ hm).1
  refine wpAny_pyIter_tuple hl ?_
  have W := Walks.tuple (prog := prog) (w := w) hh s.heap.objs.size l (Nat.ne_of_lt hlt) vs.toArray
  refine ⟨s.heap.objs.size, _, _, _, _, fun n => (l, o) ∈ n, m, news, fun i m' n' => J i m' n' ∧ (l, o) ∈ n', rfl, W, fun i h st => by obtain ⟨o, e, c, _⟩ := st.1; exact ⟨o, _, e, c, by decide⟩, fun i h h' o' nw st e e' hk Nw hS => ?_, fun _ _ _ x => x.2, ht,
    ⟨⟨_, Heap.get?_push_size _ rfl, rfl, rfl⟩, hl.at fun o e => Heap.get?_push_of_some _ e⟩, F.push _, N.grown fun _ _ e => Heap.get?_push_of_some _ e, fun p hp => Nat.ne_of_lt (Heap.lt_size (N p hp).1), Nat.ne_of_lt F.ns.lt, next_is_new F, ⟨hj, hm⟩, ?_, ?_⟩
  · refine ⟨?_, ⟨_, (Nw _ hS).1, ho⟩⟩
    obtain ⟨o2, ho2, r⟩ := st.1
    rw [ho2] at e; cases e
    exact ⟨_, e', r⟩
  · rintro i v m₁ news₁ h tk oI E' hi hP ⟨hJ, hS⟩ htk F₁ N₁ off
    exact turn _ oI i v m₁ news₁ h tk E' (fun p hp => Heap.lt_size (N p hp).1) (by simpa using hP) hJ hS htk F₁ N₁ off
  · rintro h tk m' news' htk ⟨hJ, hS⟩ F₁ N₁
    exact done h tk m' news' htk (by simpa using hJ) F₁ N₁
/-- over a range -/
theorem forAt_range {target : Expr} {body : List Stmt} {Q : Flow → Shared → Prop} {r : Addr} {a₀ b₀ : Int} {t₀ u₀ v₀ : Tok} {n : Nat} (J : Nat → (PySem.Str → Option Value) → List (Addr × Obj) → Prop) (hh : A.handled = none) (hr : IsRange s.heap r a₀ b₀ 1 t₀ u₀ v₀) (hsmall : Builtin.Range.small a₀ b₀ 1 = true) (hn : Builtin.Range.rangeSize a₀ b₀ 1 = (n : Int)) (F : Fr h₀ env.locals s.heap m) (N : News h₀ env.locals s.heap news) (ht : 1 ≤ s.toks) (hj : J 0 m news)
    (turn : ∀ I oI i t m₁ news₁ h tk (E' : Value → Shared → Prop), (∀ p ∈ news, p.1 < I) → i < n → J i m₁ news₁ → 1 ≤ tk → Fr h₀ env.locals h m₁ → News h₀ env.locals h ((I, oI) :: news₁) → (∀ p ∈ news₁, p.1 ≠ I) →
      wpAny (model prog w) A (assign target env (.int (a₀ + (i : Int)) t)) (fun _ s₃ => wpAny (model prog w) A (execs body env) (FTurn h₀ env.locals s I oI (J (i + 1)) Q) E' s₃) E' { s with heap := h, toks := tk })
    (done : ∀ h tk m' news', 1 ≤ tk → J n m' news' → Fr h₀ env.locals h m' → News h₀ env.locals h news' → Q .next { s with heap := h, toks := tk }) :
    wpAny (model prog w) A (pyIter (.ref r)) (fun it s₂ => ForAt prog w A h₀ env target body Q it s₂) E s := by
  refine wpAny_pyIter_range hr hsmall ?_
  have W := LCg.range_walks (prog := prog) (w := w) (I := s.heap.objs.size) hh a₀ n
  refine ⟨s.heap.objs.size, _, _, _, _, fun _ => True, m, news, J, rfl, W, fun i h st => ⟨_, _, st, rfl, by decide⟩, fun i h h' o nw st e e' hk Nw _ => LCg.range_st (h₀ := h₀) (L := env.locals) i h h' o nw st e e' hk Nw trivial, fun _ _ _ _ => trivial, ht,
    (by show IsRangeIter _ _ _ _ _; rw [hn]; simpa using Heap.get?_push_size _ rfl), F.push _, N.grown fun _ _ e => Heap.get?_push_of_some _ e, fun p hp => Nat.ne_of_lt (Heap.lt_size (N p hp).1), Nat.ne_of_lt F.ns.lt, next_is_new F, hj, ?_, done⟩
  rintro i v m₁ news₁ h tk oI E' hi ⟨t, rfl⟩ hJ htk F₁ N₁ off
  exact turn _ oI i t m₁ news₁ h tk E' (fun p hp => Heap.lt_size (N p hp).1) hi hJ htk F₁ N₁ off
end
end Mine
namespace Mine
section
variable {prog : Program} {w : World} {A : Around} {E : Value → Shared → Prop} {s : Shared} {h₀ : Heap} {L : Addr} {m : PySem.Str → Option Value} {env : Env} {news : List (Addr × Obj)}
/-- a turn's end, the ledger as it was -/
def KTurn (h₀ : Heap) (L : Addr) (s : Shared) (I : Addr) (oI : Obj) (news : List (Addr × Obj)) (J : (PySem.Str → Option Value) → Prop) (Q : Flow → Shared → Prop) (f : Flow) (s' : Shared) : Prop := match f with
  | .ret v => Q (.ret v) s'
  | .brk => Q .next s'
  | _ => ∃ h' tk m', s' = { s with heap := h', toks := tk } ∧ 1 ≤ tk ∧ Fr h₀ L h' m' ∧ News h₀ L h' ((I, oI) :: news) ∧ J m'
theorem KTurn.intro {I : Addr} {oI : Obj} {J : (PySem.Str → Option Value) → Prop} {Q : Flow → Shared → Prop} {h' : Heap} {tk : Nat} {m' : PySem.Str → Option Value} {all : List (Addr × Obj)} (F : Fr h₀ L h' m') (N : News h₀ L h' all) (ht : 1 ≤ tk)
    (sub : ∀ p ∈ (I, oI) :: news, p ∈ all) (hj : J m') : KTurn h₀ L s I oI news J Q .next { s with heap := h', toks := tk } :=
  ⟨h', tk, m', rfl, ht, F, fun p hp => N p (sub p hp), hj⟩
theorem KTurn.toF {I : Addr} {oI : Obj} {J : (PySem.Str → Option Value) → Prop} {J' : (PySem.Str → Option Value) → List (Addr × Obj) → Prop} {Q : Flow → Shared → Prop} {f : Flow} {s' : Shared} (off : ∀ p ∈ news, p.1 ≠ I) (hj : ∀ m, J m → J' m news) (h : KTurn h₀ L s I oI news J Q f s') : FTurn h₀ L s I oI J' Q f s' := by
  cases f with
  | ret v => exact h
  | brk => exact h
  | next => obtain ⟨h', tk, m', e, ht, F, N, hJ⟩ := h; exact ⟨h', tk, m', news, e, ht, F, N, off, hj _ hJ⟩
  | cont => obtain ⟨h', tk, m', e, ht, F, N, hJ⟩ := h; exact ⟨h', tk, m', news, e, ht, F, N, off, hj _ hJ⟩
theorem forAt_listK {target : Expr} {body : List Stmt} {Q : Flow → Shared → Prop} {l : Addr} {vs : List Value} {nn : Nat} (J : Nat → (PySem.Str → Option Value) → Prop) (hh : A.handled = none) (F : Fr h₀ env.locals s.heap m) (N : News h₀ env.locals s.heap news) (hm : (l, listOf vs.toArray nn) ∈ news) (ht : 1 ≤ s.toks) (hj : J 0 m)
    (turn : ∀ I oI i v m₁ h tk (E' : Value → Shared → Prop), (∀ p ∈ news, p.1 < I) → vs[i]? = some v → J i m₁ → 1 ≤ tk → Fr h₀ env.locals h m₁ → News h₀ env.locals h ((I, oI) :: news) → 
      wpAny (model prog w) A (assign target env v) (fun _ s₃ => wpAny (model prog w) A (execs body env) (KTurn h₀ env.locals s I oI news (J (i + 1)) Q) E' s₃) E' { s with heap := h, toks := tk })
    (done : ∀ h tk m', 1 ≤ tk → J vs.length m' → Fr h₀ env.locals h m' → News h₀ env.locals h news → Q .next { s with heap := h, toks := tk }) :
    wpAny (model prog w) A (pyIter (.ref l)) (fun it s₂ => ForAt prog w A h₀ env target body Q it s₂) E s := by
  refine forAt_list (fun i m' n' => n' = news ∧ J i m') hh F N hm ht ⟨rfl, hj⟩ ?_ ?_
  · rintro I oI i v m₁ news₁ h tk E' hlt hv ⟨rfl, hJ⟩ hS htk F₁ N₁ off
    exact wpAny_mono (turn I oI i v m₁ h tk E' hlt hv hJ htk F₁ N₁) (fun _ s₃ h₃ => wpAny_mono h₃ (fun f s₄ h₄ => h₄.toF off fun m hm => ⟨⟨rfl, hm⟩, hS⟩) fun _ _ e => e) fun _ _ e => e
  · rintro h tk m' news' htk ⟨rfl, hJ⟩ F₁ N₁
    exact done h tk m' htk hJ F₁ N₁
theorem forAt_rangeK {target : Expr} {body : List Stmt} {Q : Flow → Shared → Prop} {r : Addr} {a₀ b₀ : Int} {t₀ u₀ v₀ : Tok} {n : Nat} (J : Nat → (PySem.Str → Option Value) → Prop) (hh : A.handled = none) (hr : IsRange s.heap r a₀ b₀ 1 t₀ u₀ v₀) (hsmall : Builtin.Range.small a₀ b₀ 1 = true) (hn : Builtin.Range.rangeSize a₀ b₀ 1 = (n : Int)) (F : Fr h₀ env.locals s.heap m) (N : News h₀ env.locals s.heap news) (ht : 1 ≤ s.toks) (hj : J 0 m)
    (turn : ∀ I oI i t m₁ h tk (E' : Value → Shared → Prop), (∀ p ∈ news, p.1 < I) → i < n → J i m₁ → 1 ≤ tk → Fr h₀ env.locals h m₁ → News h₀ env.locals h ((I, oI) :: news) →
      wpAny (model prog w) A (assign target env (.int (a₀ + (i : Int)) t)) (fun _ s₃ => wpAny (model prog w) A (execs body env) (KTurn h₀ env.locals s I oI news (J (i + 1)) Q) E' s₃) E' { s with heap := h, toks := tk })
    (done : ∀ h tk m', 1 ≤ tk → J n m' → Fr h₀ env.locals h m' → News h₀ env.locals h news → Q .next { s with heap := h, toks := tk }) :
    wpAny (model prog w) A (pyIter (.ref r)) (fun it s₂ => ForAt prog w A h₀ env target body Q it s₂) E s := by
  refine forAt_range (fun i m' n' => n' = news ∧ J i m') hh hr hsmall hn F N ht ⟨rfl, hj⟩ ?_ ?_
  · rintro I oI i t m₁ news₁ h tk E' hlt hv ⟨rfl, hJ⟩ htk F₁ N₁ off
    exact wpAny_mono (turn I oI i t m₁ h tk E' hlt hv hJ htk F₁ N₁) (fun _ s₃ h₃ => wpAny_mono h₃ (fun f s₄ h₄ => h₄.toF off fun m hm => ⟨rfl, hm⟩) fun _ _ e => e) fun _ _ e => e
  · rintro h tk m' news' htk ⟨rfl, hJ⟩ F₁ N₁
    exact done h tk m' htk hJ F₁ N₁
end
end Mine
end SForT
section SCompW
open PySem PySem.W PyProof.Rows PySem.Calls
set_option Elab.async false
set_option maxRecDepth 100000
namespace Mine
section
variable {prog : Program} {w : World} {A : Around} {E : Value → Shared → Prop} {s : Shared} {h₀ : Heap} {L : Addr} {m : PySem.Str → Option Value} {env : Env} {news : List (Addr × Obj)}
/-- a comprehension whose iterator stands -/
inductive CompAt (prog : Program) (w : World) (A : Around) (h₀ : Heap) (L : Addr) (m : PySem.Str → Option Value) (env : Env) (elt : Expr) (x : PySem.Str) (scope : Scope) (cl : List (PySem.Str × Addr)) (Fin : Shared → List Value → List (Addr × Obj) → Prop) (it : Value) (s₂ : Shared) : Prop
  | mk (I : Addr) (fp : List Addr) (n : Nat) (P : Nat → Value → Prop) (St : Nat → Heap → Prop) (S : List (Addr × Obj) → Prop) (news : List (Addr × Obj))
    (c0 : it = .ref I)
    (c1 : Walks prog w A I fp [I] n P St)
    (c2 : n ≤ sizeLine)
    (c3 : (∀ i h, St i h → ∃ o, h.get? I = some o))
    (c4 : (∀ i (h h' : Heap) (o : Obj) (nw : List (Addr × Obj)), St i h → h.get? I = some o → h'.get? I = some o → (∀ b o, h₀.get? b = some o → h'.get? b = some o) → News h₀ L h' nw → S nw → St i h'))
    (c5 : St 0 s₂.heap)
    (c6 : (∀ b ∈ fp, b < s₂.heap.objs.size))
    (c7 : Fr h₀ L s₂.heap m)
    (c8 : News h₀ L s₂.heap news)
    (c9 : L ≠ I)
    (c10 : h₀.get? I = none)
    (c11 : (∀ p ∈ news, p.1 ≠ I))
    (c12 : S news)
    (c13 : LCg.CompRest prog w A h₀ L m env elt x scope cl s₂ S P (Fin s₂) n 0 [] news) : CompAt prog w A h₀ L m env elt x scope cl Fin it s₂
/-- what a comprehension wants of its source -/
def CSrc (prog : Program) (w : World) (A : Around) (E : Value → Shared → Prop) (h₀ : Heap) (L : Addr) (m : PySem.Str → Option Value) (env : Env) (elt : Expr) (x : PySem.Str) (scope : Scope) (cl : List (PySem.Str × Addr)) (Fin : Shared → List Value → List (Addr × Obj) → Prop) (xv : Value) (s₁ : Shared) : Prop :=
  wpAny (model prog w) A (pyIter xv) (fun it s₂ => CompAt prog w A h₀ L m env elt x scope cl Fin it s₂) E s₁
theorem comp_w {elt iter : Expr} {x : PySem.Str} {px : Pos} {scope : Scope} {cl : List (PySem.Str × Addr)} {pos : Pos} {Q : Value → Shared → Prop} (_F₀ : Fr h₀ L s.heap m)
    (hclos : closureFor scope env = pure cl) (hcell : ∀ y ∈ scope.names, y.2 ≠ .cell) (hkind : scope.kind = .function)
    (hnames : ∀ y ∈ scope.names, y.2 = .local → scope.names.lookup y.1 = some .local) (hx : scope.names.lookup x = some .local)
    (hs : ∀ x, foldedSetIterable iter env x = pure x)
    (h : wpAny (model prog w) A (eval iter env) (CSrc prog w A E h₀ L m env elt x scope cl (fun s₂ => LCg.FinE h₀ L m s₂ Q)) E s) :
    wpAny (model prog w) A (eval (.ListComp elt [⟨.Name x px, iter, [], 0⟩] scope pos) env) Q E s := by
  rw [eval_ListComp]
  refine wpAny_comprehension_free (use := none) rfl hs hclos hkind hnames (wpAny_mono h (fun xv s₁ h₁ => wpAny_mono h₁ (fun it s₂ h₂ => ?_) fun _ _ e => e) fun _ _ e => e)
  obtain ⟨I, fp, n, P, St, S, news, rfl, W, hsz, hIo, hst, h0, hfp, F, N, hLI, hI0, off, hS, R⟩ := h₂
  refine LCg.block_U W hsz hIo hst hcell hkind hx h0 hfp F N hLI hI0 off hS R ?_
  intro D C h tk m' ys news' F' N' o1 hn hC₀ hD₀ hCL hDL hCD offC fin
  exact ⟨m', hn, fun h'' hs'' => fin D h'' tk (F'.change hs'' hCL hC₀) (PySem.W.kas_news N' hs'' (head_off hCD offC)) o1⟩
/-- a comprehension that is assigned -/
theorem comp_wA {elt iter : Expr} {x y : PySem.Str} {px py : Pos} {scope : Scope} {cl : List (PySem.Str × Addr)} {pos spos : Pos} {Q : Flow → Shared → Prop} (_F₀ : Fr h₀ L s.heap m) (hLe : env.locals = L)
    (hsw : swapsWith (.ListComp elt [⟨.Name x px, iter, [], 0⟩] scope pos) (some (.Name y py)) spos.line env = pure true)
    (hclos : closureFor scope env = pure cl) (hcell : ∀ y ∈ scope.names, y.2 ≠ .cell) (hkind : scope.kind = .function)
    (hnames : ∀ y ∈ scope.names, y.2 = .local → scope.names.lookup y.1 = some .local) (hx : scope.names.lookup x = some .local)
    (hy : env.kindOf y = some .local) (hp : (env.scope.kind == .class || (env.scope.kind == .module && env.locals != env.globals)) = false)
    (hs : ∀ x, foldedSetIterable iter env x = pure x)
    (h : wpAny (model prog w) A (eval iter env) (CSrc prog w A E h₀ L m env elt x scope cl (fun s₂ => LCg.FinA h₀ L m s₂ y Q)) E s) :
    wpAny (model prog w) A (exec (.Assign [.Name y py] (.ListComp elt [⟨.Name x px, iter, [], 0⟩] scope pos) spos) env) Q E s := by
  subst hLe
  rw [exec_Assign_Name_used _ _ _ _ hsw]
  refine wpAny_bind (wpAny_standAt (wpAny_bind ?_))
  show wpAny _ A (do let _ ← comprehension (.ListComp elt [⟨.Name x px, iter, [], 0⟩] scope pos) scope env _ (newList []) false (eval iter env) (some (assign (.Name y py) env))) _ _ s
  refine wpAny_bind (wpAny_mono (wpAny_comprehension_free (use := some (assign (.Name y py) env)) (Q := fun _ s' => Q .next s') rfl hs hclos hkind hnames
    (wpAny_mono h (fun xv s₁ h₁ => wpAny_mono h₁ (fun it s₂ h₂ => ?_) fun _ _ e => e) fun _ _ e => e)) (fun _ s' hq => wpAny_pure (wpAny_pure hq)) fun _ _ e => e)
  obtain ⟨I, fp, n, P, St, S, news, rfl, W, hsz, hIo, hst, h0, hfp, F, N, hLI, hI0, off, hS, R⟩ := h₂
  refine LCg.block_U W hsz hIo hst hcell hkind hx h0 hfp F N hLI hI0 off hS R ?_
  intro D C h tk m' ys news' F' N' o1 hn hC₀ hD₀ hCL hDL hCD offC fin
  show wpAny _ A (assign (.Name y py) env (.ref D)) _ _ _
  refine wpAny_assign_Name (wpAny_storeName_local hy F'.ns (fun h₂ hn₂ hs₂ => ?_) hp)
  exact ⟨m', hn.sameBut hs₂ hCL, fun h'' hs'' => fin D h'' _ ((F'.set hn₂ hs₂).change hs'' hCL hC₀) (PySem.W.kas_news (N'.set hs₂) hs'' (head_off hCD offC)) o1⟩
/-- the turns by what holds between them -/
theorem rest_inv {elt : Expr} {x : PySem.Str} {scope : Scope} {cl : List (PySem.Str × Addr)} {s₂ : Shared} {S : List (Addr × Obj) → Prop} {P : Nat → Value → Prop} {Fin : List Value → List (Addr × Obj) → Prop} {n : Nat} (J : Nat → List Value → List (Addr × Obj) → Prop) (hJS : ∀ i ys nw, J i ys nw → S nw) (hj : J 0 [] news)
    (turn : ∀ i ys nw v I oI C oC D m₂ h tk (E' : Value → Shared → Prop), i < n → J i ys nw → P i v → LCg.NsObj oC m₂ → m₂ x = some v → Fr h₀ L h m → News h₀ L h ((I, oI) :: (C, oC) :: (D, LCg.lst ys) :: nw) → LCg.Off3 I C D nw → ((@Ne Nat I C) ∧ (@Ne Nat I D) ∧ (@Ne Nat C D)) →
      wpAny (model prog w) A (eval elt (compEnvC scope cl C env)) (LCg.CompEnd h₀ L m { s₂ with heap := h, toks := tk } I oI C oC D (LCg.lst ys) (fun _ => True) (fun y nw' => J (i + 1) (ys ++ [y]) nw')) E' { s₂ with heap := h, toks := tk })
    (fin : ∀ ys nw, J n ys nw → Fin ys nw) : LCg.CompRest prog w A h₀ L m env elt x scope cl s₂ S P Fin n 0 [] news := by
  have key : ∀ k i ys nw, i + k = n → J i ys nw → LCg.CompRest prog w A h₀ L m env elt x scope cl s₂ S P Fin k i ys nw := by
    intro k
    induction k with
    | zero =>
      intro i ys nw hi hj
      have : i = n := by omega
      subst this
      exact LCg.CompRest.zero (fin ys nw hj)
    | succ k ih =>
      intro i ys nw hi hj
      refine LCg.CompRest.succ fun v I oI C oC D m₂ h tk E' hP hO hm F N off ne => ?_
      refine wpAny_mono (turn i ys nw v I oI C oC D m₂ h tk E' (by omega) hj hP hO hm F N off ne) (fun y s' hy => ?_) fun _ _ e => e
      obtain ⟨h', tk', nw', e, F', N', off', _, hj'⟩ := hy
      exact ⟨h', tk', nw', e, F', N', off', hJS _ _ _ hj', ih (i + 1) _ _ (by omega) hj'⟩
  exact key n 0 [] news (by omega) hj
theorem compAt_tuple {elt : Expr} {x : PySem.Str} {scope : Scope} {cl : List (PySem.Str × Addr)} {Fin : Shared → List Value → List (Addr × Obj) → Prop} {l : Addr} {vs : List Value} {o : Obj} (J : Nat → List Value → List (Addr × Obj) → Prop) (hh : A.handled = none) (F : Fr h₀ L s.heap m) (N : News h₀ L s.heap news) (hm : (l, o) ∈ news) (ho : o.cls = .type "tuple" ∧ ∃ n, o.data = .seq vs.toArray n) (hsz : vs.length ≤ sizeLine) (hj : J 0 [] news)
    (turn : ∀ i ys nw v I oI C oC D m₂ h tk g (E' : Value → Shared → Prop), J i ys nw → (l, o) ∈ nw → vs[i]? = some v → LCg.NsObj oC m₂ → m₂ x = some v → Fr h₀ L h m → News h₀ L h ((I, oI) :: (C, oC) :: (D, LCg.lst ys) :: nw) → LCg.Off3 I C D nw → ((@Ne Nat I C) ∧ (@Ne Nat I D) ∧ (@Ne Nat C D)) →
      wpAny (model prog w) A (eval elt (compEnvC scope cl C env)) (LCg.CompEnd h₀ L m { s with heap := h, toks := tk } I oI C oC D (LCg.lst ys) (fun _ => True) (fun y nw' => J (i + 1) (ys ++ [y]) nw' ∧ (l, o) ∈ nw')) E' { (({ s with heap := g } : Shared)) with heap := h, toks := tk })
    (fin : ∀ g ys nw, J vs.length ys nw → Fin { s with heap := g } ys nw) :
    wpAny (model prog w) A (pyIter (.ref l)) (fun it s₂ => CompAt prog w A h₀ L m env elt x scope cl Fin it s₂) E s := by
  have hl : s.heap.IsTuple l vs.toArray := ⟨_, (N _ hm).1, ho⟩
  have hlt : l < s.heap.objs.size := Heap.lt_size (N _ hm).1
  refine wpAny_pyIter_tuple hl ?_
  have W := Walks.tuple (prog := prog) (w := w) hh s.heap.objs.size l (Nat.ne_of_lt hlt) vs.toArray
  refine ⟨s.heap.objs.size, _, _, _, _, fun n => (l, o) ∈ n, news, rfl, W, by simpa using hsz, fun i h st => by obtain ⟨o, e, _⟩ := st.1; exact ⟨o, e⟩, fun i h h' o' nw st e e' hk Nw hS => ?_,
    ⟨⟨_, Heap.get?_push_size _ rfl, rfl, rfl⟩, hl.at fun o e => Heap.get?_push_of_some _ e⟩, fun b hb => ?_, F.push _, N.grown fun _ _ e => Heap.get?_push_of_some _ e, Nat.ne_of_lt F.ns.lt, next_is_new F, fun p hp => Nat.ne_of_lt (Heap.lt_size (N p hp).1), hm, ?_⟩
  · refine ⟨?_, ⟨_, (Nw _ hS).1, ho⟩⟩
    obtain ⟨o2, ho2, r⟩ := st.1
    rw [ho2] at e; cases e
    exact ⟨_, e', r⟩
  · rw [Heap.size_push]
    rcases List.mem_cons.mp hb with rfl | hb
    · exact Nat.lt_succ_self _
    · rw [List.mem_singleton.mp hb]; exact Nat.lt_succ_of_lt hlt
  · refine rest_inv (fun i ys nw => J i ys nw ∧ (l, o) ∈ nw) (fun _ _ _ x => x.2) ⟨hj, hm⟩ ?_ ?_
    · rintro i ys nw v I oI C oC D m₂ h tk E' hi ⟨hJ, hS⟩ hP hO hmx F₁ N₁ off ne
      exact turn i ys nw v I oI C oC D m₂ h tk _ E' hJ hS (by simpa using hP) hO hmx F₁ N₁ off ne
    · rintro ys nw ⟨hJ, _⟩
      exact fin _ ys nw (by simpa using hJ)
theorem compAt_range {elt : Expr} {x : PySem.Str} {scope : Scope} {cl : List (PySem.Str × Addr)} {Fin : Shared → List Value → List (Addr × Obj) → Prop} {r : Addr} {a₀ b₀ : Int} {t₀ u₀ v₀ : Tok} {n : Nat} (J : Nat → List Value → List (Addr × Obj) → Prop) (hh : A.handled = none) (hr : IsRange s.heap r a₀ b₀ 1 t₀ u₀ v₀) (hsmall : Builtin.Range.small a₀ b₀ 1 = true) (hn : Builtin.Range.rangeSize a₀ b₀ 1 = (n : Int)) (F : Fr h₀ L s.heap m) (N : News h₀ L s.heap news) (hsz : n ≤ sizeLine) (hj : J 0 [] news)
    (turn : ∀ i ys nw t I oI C oC D m₂ h tk g (E' : Value → Shared → Prop), i < n → J i ys nw → LCg.NsObj oC m₂ → m₂ x = some (.int (a₀ + (i : Int)) t) → Fr h₀ L h m → News h₀ L h ((I, oI) :: (C, oC) :: (D, LCg.lst ys) :: nw) → LCg.Off3 I C D nw → ((@Ne Nat I C) ∧ (@Ne Nat I D) ∧ (@Ne Nat C D)) →
      wpAny (model prog w) A (eval elt (compEnvC scope cl C env)) (LCg.CompEnd h₀ L m { s with heap := h, toks := tk } I oI C oC D (LCg.lst ys) (fun _ => True) (fun y nw' => J (i + 1) (ys ++ [y]) nw')) E' { (({ s with heap := g } : Shared)) with heap := h, toks := tk })
    (fin : ∀ g ys nw, J n ys nw → Fin { s with heap := g } ys nw) :
    wpAny (model prog w) A (pyIter (.ref r)) (fun it s₂ => CompAt prog w A h₀ L m env elt x scope cl Fin it s₂) E s := by
  refine wpAny_pyIter_range hr hsmall ?_
  have W := LCg.range_walks (prog := prog) (w := w) (I := s.heap.objs.size) hh a₀ n
  refine ⟨s.heap.objs.size, _, _, _, _, fun _ => True, news, rfl, W, hsz, fun i h st => ⟨_, st⟩, fun i h h' o nw st e e' hk Nw _ => LCg.range_st (h₀ := h₀) (L := L) i h h' o nw st e e' hk Nw trivial,
    (by show IsRangeIter _ _ _ _ _; rw [hn]; simpa using Heap.get?_push_size _ rfl), fun b hb => by rw [List.mem_singleton.mp hb, Heap.size_push]; exact Nat.lt_succ_self _, F.push _, N.grown fun _ _ e => Heap.get?_push_of_some _ e, Nat.ne_of_lt F.ns.lt, next_is_new F, fun p hp => Nat.ne_of_lt (Heap.lt_size (N p hp).1), trivial, ?_⟩
  refine rest_inv J (fun _ _ _ _ => trivial) hj ?_ (fun ys nw => fin _ ys nw)
  rintro i ys nw v I oI C oC D m₂ h tk E' hi hJ ⟨t, rfl⟩ hO hmx F₁ N₁ off ne
  exact turn i ys nw t I oI C oC D m₂ h tk _ E' hi hJ hO hmx F₁ N₁ off ne
end
end Mine
namespace Mine
section
variable {prog : Program} {w : World} {A : Around} {E : Value → Shared → Prop} {s : Shared} {h₀ : Heap} {L : Addr} {m : PySem.Str → Option Value} {env : Env} {news : List (Addr × Obj)}
/-- the ledger stands as it stood: what a turn's element leaves -/
def KEnd (h₀ : Heap) (L : Addr) (m : PySem.Str → Option Value) (s : Shared) (I : Addr) (oI : Obj) (C : Addr) (oC : Obj) (D : Addr) (ys : List Value) (news : List (Addr × Obj)) (R : Value → Prop) (y : Value) (s' : Shared) : Prop :=
  ∃ h' tk, s' = { s with heap := h', toks := tk } ∧ Fr h₀ L h' m ∧ News h₀ L h' ((I, oI) :: (C, oC) :: (D, LCg.lst ys) :: news) ∧ R y
theorem KEnd.intro {I C D : Addr} {oI oC : Obj} {ys : List Value} {R : Value → Prop} {y : Value} {h' : Heap} {tk : Nat} {all : List (Addr × Obj)} (F : Fr h₀ L h' m) (N : News h₀ L h' all) (sub : ∀ p ∈ (I, oI) :: (C, oC) :: (D, LCg.lst ys) :: news, p ∈ all) (hr : R y) :
    KEnd h₀ L m s I oI C oC D ys news R y { s with heap := h', toks := tk } := ⟨h', tk, rfl, F, fun p hp => N p (sub p hp), hr⟩
theorem KEnd.toC {h9 : Heap} {tk9 : Nat} {I C D : Addr} {oI oC : Obj} {ys : List Value} {R : Value → Prop} {y : Value} {s' : Shared} {rest : Value → List (Addr × Obj) → Prop} (off : LCg.Off3 I C D news) (h : KEnd h₀ L m s I oI C oC D ys news R y s') (hr : ∀ y, R y → rest y news) :
    LCg.CompEnd h₀ L m { s with heap := h9, toks := tk9 } I oI C oC D (LCg.lst ys) (fun _ => True) rest y s' := by
  obtain ⟨h', tk, rfl, F, N, h⟩ := h
  exact ⟨h', tk, news, rfl, F, N, off, trivial, hr y h⟩
theorem compAt_tupleK {elt : Expr} {x : PySem.Str} {scope : Scope} {cl : List (PySem.Str × Addr)} {Fin : Shared → List Value → List (Addr × Obj) → Prop} {l : Addr} {vs : List Value} {o : Obj} (J : Nat → List Value → Prop) (hh : A.handled = none) (F : Fr h₀ L s.heap m) (N : News h₀ L s.heap news) (hm : (l, o) ∈ news) (ho : o.cls = .type "tuple" ∧ ∃ n, o.data = .seq vs.toArray n) (hsz : vs.length ≤ sizeLine) (hj : J 0 [])
    (turn : ∀ i ys v I oI C oC D m₂ h tk (E' : Value → Shared → Prop), J i ys → vs[i]? = some v → LCg.NsObj oC m₂ → m₂ x = some v → Fr h₀ L h m → News h₀ L h ((I, oI) :: (C, oC) :: (D, LCg.lst ys) :: news) → LCg.Off3 I C D news → ((@Ne Nat I C) ∧ (@Ne Nat I D) ∧ (@Ne Nat C D)) →
      wpAny (model prog w) A (eval elt (compEnvC scope cl C env)) (KEnd h₀ L m s I oI C oC D ys news (fun y => J (i + 1) (ys ++ [y]))) E' { s with heap := h, toks := tk })
    (fin : ∀ g ys, J vs.length ys → Fin { s with heap := g } ys news) :
    wpAny (model prog w) A (pyIter (.ref l)) (fun it s₂ => CompAt prog w A h₀ L m env elt x scope cl Fin it s₂) E s := by
  refine compAt_tuple (fun i ys nw => nw = news ∧ J i ys) hh F N hm ho hsz ⟨rfl, hj⟩ ?_ ?_
  · rintro i ys nw v I oI C oC D m₂ h tk g E' ⟨rfl, hJ⟩ _ hv hO hmx F₁ N₁ off ne
    exact wpAny_mono (turn i ys v I oI C oC D m₂ h tk E' hJ hv hO hmx F₁ N₁ off ne) (fun y s' hy => hy.toC off fun y hy => ⟨⟨rfl, hy⟩, hm⟩) fun _ _ e => e
  · rintro g ys nw ⟨rfl, hJ⟩
    exact fin g ys hJ
theorem compAt_rangeK {elt : Expr} {x : PySem.Str} {scope : Scope} {cl : List (PySem.Str × Addr)} {Fin : Shared → List Value → List (Addr × Obj) → Prop} {r : Addr} {a₀ b₀ : Int} {t₀ u₀ v₀ : Tok} {n : Nat} (J : Nat → List Value → Prop) (hh : A.handled = none) (hr : IsRange s.heap r a₀ b₀ 1 t₀ u₀ v₀) (hsmall : Builtin.Range.small a₀ b₀ 1 = true) (hn : Builtin.Range.rangeSize a₀ b₀ 1 = (n : Int)) (F : Fr h₀ L s.heap m) (N : News h₀ L s.heap news) (hsz : n ≤ sizeLine) (hj : J 0 [])
    (turn : ∀ i ys t I oI C oC D m₂ h tk (E' : Value → Shared → Prop), i < n → J i ys → LCg.NsObj oC m₂ → m₂ x = some (.int (a₀ + (i : Int)) t) → Fr h₀ L h m → News h₀ L h ((I, oI) :: (C, oC) :: (D, LCg.lst ys) :: news) → LCg.Off3 I C D news → ((@Ne Nat I C) ∧ (@Ne Nat I D) ∧ (@Ne Nat C D)) →
      wpAny (model prog w) A (eval elt (compEnvC scope cl C env)) (KEnd h₀ L m s I oI C oC D ys news (fun y => J (i + 1) (ys ++ [y]))) E' { s with heap := h, toks := tk })
    (fin : ∀ g ys, J n ys → Fin { s with heap := g } ys news) :
    wpAny (model prog w) A (pyIter (.ref r)) (fun it s₂ => CompAt prog w A h₀ L m env elt x scope cl Fin it s₂) E s := by
  refine compAt_range (fun i ys nw => nw = news ∧ J i ys) hh hr hsmall hn F N hsz ⟨rfl, hj⟩ ?_ ?_
  · rintro i ys nw t I oI C oC D m₂ h tk g E' hi ⟨rfl, hJ⟩ hO hmx F₁ N₁ off ne
    exact wpAny_mono (turn i ys t I oI C oC D m₂ h tk E' hi hJ hO hmx F₁ N₁ off ne) (fun y s' hy => hy.toC off fun y hy => ⟨rfl, hy⟩) fun _ _ e => e
  · rintro g ys nw ⟨rfl, hJ⟩
    exact fin g ys hJ
end
end Mine
end SCompW
section SWdP1
open PySem PySem.W PyProof.Rows PySem.Calls
set_option Elab.async false
set_option maxRecDepth 100000
set_option maxHeartbeats 8000000
set_option pp.maxSteps 400
set_option autoImplicit false
namespace Mine
theorem foldl_S (x : List Nat) : ∀ (n : Nat) (a : Array Nat), (List.replicate n x.toArray).foldl (· ++ ·) a = (a.toList ++ (List.replicate n x).flatten).toArray
  | 0, a => by simp
  | n + 1, a => by
    rw [List.replicate_succ, List.foldl_cons, foldl_S x n, List.replicate_succ]
    simp
theorem mulS (x : List Nat) (n : Nat) (i : Int) (hi : i = (n : Int)) : Txt.mul (S x) i = S (List.replicate n x).flatten := by
  subst hi
  unfold Txt.mul
  by_cases h1 : n < 1
  · have : n = 0 := by omega
    subst this
    rw [if_pos (by omega)]; rfl
  · rw [if_neg (by omega)]
    by_cases h2 : (((n : Int) == 1 || (S x).length == 0) = true)
    · rw [if_pos h2]
      rw [Bool.or_eq_true, beq_iff_eq, beq_iff_eq, S_len] at h2
      rcases h2 with h2 | h2
      · have : n = 1 := by omega
        subst this; simp
      · have : x = [] := List.length_eq_zero_iff.mp h2
        subst this; simp
    · rw [if_neg h2]
      show (⟨_⟩ : PySem.Str) = ⟨_⟩
      congr 1
      rw [Int.toNat_natCast]
      show (List.replicate n x.toArray).foldl (· ++ ·) #[] = _
      rw [foldl_S]; simp
theorem mul_dot (D : Nat) : Txt.mul (PySem.Str.ofString ".") (D : Int) = S (List.replicate D 46) := by
  rw [of_dot, mulS [46] D _ rfl]
  congr 1
  induction D with
  | zero => rfl
  | succ n ih => rw [List.replicate_succ, List.flatten_cons, ih, List.replicate_succ]; rfl
theorem mul_amp (A : Nat) (hA : 1 ≤ A) : Txt.mul (PySem.Str.ofString "amp;") ((A : Int) - 1) = S (ampN (A - 1)) := by
  rw [of_ampsc, mulS [97, 109, 112, 59] (A - 1) _ (by omega)]; rfl
theorem word_start (D A : Nat) (hA : 1 ≤ A) : Txt.mul (PySem.Str.ofString ".") (D : Int) ++ PySem.Str.ofString "&" ++ Txt.mul (PySem.Str.ofString "amp;") ((A : Int) - 1) = S (wd D (A - 1) []) := by
  rw [mul_dot, mul_amp A hA, of_amp, S_append, S_append]
  congr 1
  simp [wd]
/-- a sign of a word, spelled -/
def spell (tab : List (PySem.Str × PySem.Str)) (wr : Nat) (c : Nat) : List Nat := if 0 < wr then (match nameAt tab (S [c]) with | some x => 38 :: (ampN (wr - 1) ++ x.cps.toList) | none => [c]) else [c]
def wordOf (D A : Nat) (cs : List Nat) (tab : List (PySem.Str × PySem.Str)) (wr : Nat) : List Nat := wd D (A - 1) (cs.flatMap (spell tab wr))
theorem ampN_len (n : Nat) : (ampN n).length = 4 * n := by
  induction n with
  | zero => rfl
  | succ n ih => rw [ampN_succ]; simp [ih]; omega
theorem wd_len (D n : Nat) (r : List Nat) : (wd D n r).length = D + 1 + 4 * n + r.length := by
  simp [wd, ampN_len]; omega
theorem spell_len {tab : List (PySem.Str × PySem.Str)} (ht : ∀ c x, nameAt tab (S [c]) = some x → x.length ≤ 10) (wr c : Nat) : (spell tab wr c).length ≤ 4 * wr + 20 := by
  unfold spell
  split
  · split
    · rename_i x hx
      have := ht c x hx
      rw [List.length_cons, List.length_append, ampN_len]
      have : x.cps.toList.length = x.length := by simp [PySem.Str.length]
      omega
    · simp
  · simp
theorem spells_len {tab : List (PySem.Str × PySem.Str)} (ht : ∀ c x, nameAt tab (S [c]) = some x → x.length ≤ 10) (wr : Nat) : ∀ cs : List Nat, (cs.flatMap (spell tab wr)).length ≤ (4 * wr + 20) * cs.length
  | [] => by simp
  | c :: cs => by
    have := spell_len ht wr c
    have := spells_len ht wr cs
    rw [List.flatMap_cons, List.length_append, List.length_cons, Nat.mul_add]; omega
theorem str_S (x : PySem.Str) : x = S x.cps.toList := by simp
theorem strs_at {xs : List (PySem.Str × Tok)} {cs : List Nat} (h : xs.map (·.1) = ones cs) {i : Nat} {v : Value} (hv : (strValues xs)[i]? = some v) : ∃ c u, cs[i]? = some c ∧ v = .str (S [c]) u := by
  unfold strValues at hv
  rw [List.getElem?_map] at hv
  cases hx : xs[i]? with
  | none => rw [hx] at hv; cases hv
  | some p =>
    rw [hx] at hv
    have h2 : (xs.map (·.1))[i]? = (ones cs)[i]? := by rw [h]
    rw [List.getElem?_map, hx] at h2
    unfold ones at h2
    rw [List.getElem?_map] at h2
    cases hc : cs[i]? with
    | none => rw [hc] at h2; cases h2
    | some c =>
      rw [hc] at h2
      have : p.1 = S [c] := by simpa using h2
      exact ⟨c, p.2, rfl, by cases hv; show Value.str p.1 p.2 = _; rw [this]⟩
/-- the word, its signs' spellings, the names: where the loop stands -/
def wInv (l : List Nat) (wr : Nat) (ND : Addr) (m : PySem.Str → Option Value) : Prop :=
  ∃ (t t3 : Tok) (m₂ : PySem.Str → Option Value), m = fun y => if y = ("word" : PySem.Str) then some (.str (S l) t) else if y = ("writings" : PySem.Str) then some (.int (wr : Int) t3) else if y = ("names" : PySem.Str) then some (.ref ND) else m₂ y
theorem wInv.of {l : List Nat} {x : PySem.Str} {wr : Nat} {ND : Addr} {m : PySem.Str → Option Value} {t t3 : Tok} (h1 : m ("word" : PySem.Str) = some (.str x t)) (h2 : m ("writings" : PySem.Str) = some (.int (wr : Int) t3)) (h3 : m ("names" : PySem.Str) = some (.ref ND)) (e : x = S l) : wInv l wr ND m := by
  subst e; exact ⟨t, t3, m, mp3 h1 h2 h3⟩
theorem wd_app (D n : Nat) (a b : List Nat) : wd D n a ++ b = wd D n (a ++ b) := by simp [wd]
theorem spell_none {tab : List (PySem.Str × PySem.Str)} {c : Nat} (h : nameAt tab (S [c]) = none) (wr : Nat) : spell tab wr c = [c] := by
  unfold spell; rw [h]; simp
theorem spell_zero {tab : List (PySem.Str × PySem.Str)} {c : Nat} : spell tab 0 c = [c] := rfl
theorem spell_some {tab : List (PySem.Str × PySem.Str)} {c : Nat} {x : PySem.Str} (h : nameAt tab (S [c]) = some x) {wr : Nat} (hw : 0 < wr) : spell tab wr c = 38 :: (ampN (wr - 1) ++ x.cps.toList) := by
  unfold spell; rw [h, if_pos hw]
theorem w_plain {D n : Nat} {pre sp : List Nat} {c : Nat} (e : sp = [c]) : S (wd D n pre) ++ S [c] = S (wd D n (pre ++ sp)) := by rw [S_append, wd_app, e]
theorem amp_text {tab : List (PySem.Str × PySem.Str)} {c : Nat} {x : PySem.Str} (h : nameAt tab (S [c]) = some x) {wr : Nat} (hw : 0 < wr) : PySem.Str.ofString "&" ++ Txt.mul (PySem.Str.ofString "amp;") ((wr : Int) - 1) ++ x = S (spell tab wr c) := by
  rw [spell_some h hw]
  obtain ⟨y, rfl⟩ : ∃ y, x = S y := ⟨_, str_S x⟩
  rw [mul_amp wr hw, of_amp, S_append, S_append]
  rfl
theorem w_more {D n : Nat} {pre sp : List Nat} : S (wd D n pre) ++ S sp = S (wd D n (pre ++ sp)) := by rw [S_append, wd_app]
end Mine
end SWdP1
section SComp3
open PySem PySem.W PyProof.Rows PySem.Calls
set_option Elab.async false
set_option maxRecDepth 100000
namespace Mine
section
variable {prog : Program} {w : World} {A : Around} {E : Value → Shared → Prop} {s : Shared} {R : Result → Shared → Prop}
theorem compTurn_mid {elt : Expr} {gens : List Comprehension} {scope : Scope} {pos px : Pos} {d : Nat} {x : PySem.Str} {i0 i1 tg : Expr} (it acc : Value) (env : Env) (h0 : gens[d]? = some ⟨.Name x px, i0, [], 0⟩) (h1 : gens[d + 1]? = some ⟨tg, i1, [], 0⟩) :
    compTurn (.ListComp elt gens scope pos) d it acc env = (standAt i0.pos >>= fun _ => pyNext it >>= fun r => match r with
      | none => pure (.done .next)
      | some v => letOwnedTupleGo (.Name x px) it v >>= fun _ => assign (.Name x px) env v >>= fun _ =>
        (eval i1 env >>= fun xv => standAt i1.pos >>= fun _ => foldedSetIterable i1 env xv >>= fun xv => holding [xv] (pyIter xv) >>= fun it' => runOwn (.compStart (.ListComp elt gens scope pos) (d + 1) it' acc env) env >>= fun _ =>
          again (.compLoop (.ListComp elt gens scope pos) d it acc env))) := by
  unfold compTurn
  simp only [h0, h1]
  rfl
theorem compTurn_last {elt : Expr} {gens : List Comprehension} {scope : Scope} {pos px : Pos} {d : Nat} {x : PySem.Str} {i0 : Expr} (it acc : Value) (env : Env) (h0 : gens[d]? = some ⟨.Name x px, i0, [], 0⟩) (h1 : gens[d + 1]? = none) :
    compTurn (.ListComp elt gens scope pos) d it acc env = (standAt i0.pos >>= fun _ => pyNext it >>= fun r => match r with
      | none => pure (.done .next)
      | some v => letOwnedTupleGo (.Name x px) it v >>= fun _ => assign (.Name x px) env v >>= fun _ =>
        (eval elt env >>= fun x => call (.builtin "list.append") [acc, x] >>= fun _ => pure ()) >>= fun _ => again (.compLoop (.ListComp elt gens scope pos) d it acc env)) := by
  unfold compTurn
  simp only [h0, h1]
  rfl
theorem compStart_d {elt : Expr} {gens : List Comprehension} {scope : Scope} {pos px : Pos} {d : Nat} {x : PySem.Str} {i0 : Expr} {it acc : Value} {env : Env} (hd : gens[d]? = some ⟨.Name x px, i0, [], 0⟩)
    (h0 : codeAny (model prog w) A (.compLoop (.ListComp elt gens scope pos) d it acc env) R s)
    (h : ∀ E', wpAny (model prog w) A (pyIter it) (fun it' s' => codeAny (model prog w) A (.compLoop (.ListComp elt gens scope pos) d it' acc env) R s') E' s) :
    codeAny (model prog w) A (.compStart (.ListComp elt gens scope pos) d it acc env) R s := by
  refine codeAny_of_tree ?_
  show wpAny _ _ ((compStart (.ListComp elt gens scope pos) d it acc env).onRaise (fun x => do noteFrame x env; standAt theWindowsPlace)) _ _ s
  refine wpAny_notedAt ?_
  unfold compStart
  have e : clausesOf (.ListComp elt gens scope pos) = gens := rfl
  rw [e, hd]
  show wpAny _ _ (ask >>= _) _ _ s
  refine wpAny_bind (wpAny_askSetting (wpAny_ite ?_))
  split
  · first
      | exact wpAny_bind (wpAny_pure (wpAny_pure (And.intro rfl h0)))
      | exact wpAny_pure (And.intro rfl h0)
  · first
      | exact wpAny_bind (wpAny_rule (wpAny_bind (wpAny_standAt (wpAny_bind (wpAny_mono (h _) (fun it' s' h' => wpAny_pure (And.intro rfl h')) fun _ _ x => x)))))
      | (refine wpAny_bind (wpAny_rule ?_); show wpAny _ _ (standAt i0.pos >>= _) _ _ s; exact wpAny_bind (wpAny_standAt (wpAny_bind (wpAny_mono (h _) (fun it' s' h' => wpAny_pure (And.intro rfl h')) fun _ _ x => x))))
theorem loopMid {elt : Expr} {gens : List Comprehension} {scope : Scope} {pos px : Pos} {d : Nat} {x : PySem.Str} {i0 i1 tg : Expr} {it acc : Value} {env : Env} (h0 : gens[d]? = some ⟨.Name x px, i0, [], 0⟩) (h1 : gens[d + 1]? = some ⟨tg, i1, [], 0⟩)
    (hs : ∀ x, foldedSetIterable i1 env x = pure x) (I : Nat → Shared → Prop)
    (turn : ∀ n s E', I n s → wpAny (model prog w) A (pyNext it) (fun r s₁ => match r with
      | none => R (.ok .next) s₁
      | some v => wpAny (model prog w) A (assign (.Name x px) env v) (fun _ s₂ => wpAny (model prog w) A (eval i1 env) (fun xv s₃ => wpAny (model prog w) A (pyIter xv) (fun it' s₄ =>
          codeAny (model prog w) (A.mark none) (.compStart (.ListComp elt gens scope pos) (d + 1) it' acc env) (fun r s₅ => match r with | .ok _ => ∃ m, m < n ∧ I m s₅ | .error _ => False) s₄) E' s₃) E' s₂) E' s₁) E' s)
    (n : Nat) (h : I n s) : codeAny (model prog w) A (.compLoop (.ListComp elt gens scope pos) d it acc env) R s := by
  refine codeAny_loop rfl I (fun n s hI => ?_) n h
  show wpAny _ _ ((compTurn (.ListComp elt gens scope pos) d it acc env).onRaise (fun x => do noteFrame x env; theTreesLotGoes x)) _ _ s
  refine wpAny_noted ?_
  rw [compTurn_mid it acc env h0 h1]
  refine wpAny_bind (wpAny_standAt (wpAny_bind (wpAny_mono (turn n s _ hI) (fun r s₁ h₁ => ?_) fun _ _ h' => h')))
  cases r with
  | none => exact wpAny_pure h₁
  | some v =>
    refine wpAny_bind (wpAny_of_eq (rfl : letOwnedTupleGo (.Name x px) it v = pure ()) ?_)
    refine wpAny_bind (wpAny_mono h₁ (fun _ s₂ h₂ => wpAny_bind (wpAny_mono h₂ (fun xv s₃ h₃ => wpAny_bind (wpAny_standAt (wpAny_bind (wpAny_of_eq (hs xv) (wpAny_bind (wpAny_holding (wpAny_mono h₃ (fun it' s₄ h₄ => ?_) fun _ _ h' => h'))))))) fun _ _ h' => h')) fun _ _ h' => h')
    refine wpAny_bind (wpAny_runOwn (codeAny_mono h₄ fun r s₅ h₅ => ?_))
    cases r with
    | ok f => exact wpAny_pure ⟨rfl, h₅⟩
    | error e => exact h₅.elim
theorem loopLast {elt : Expr} {gens : List Comprehension} {scope : Scope} {pos px : Pos} {d : Nat} {x : PySem.Str} {i0 : Expr} {it acc : Value} {env : Env} (h0 : gens[d]? = some ⟨.Name x px, i0, [], 0⟩) (h1 : gens[d + 1]? = none)
    (I : Nat → Shared → Prop)
    (turn : ∀ n s E', I n s → wpAny (model prog w) A (pyNext it) (fun r s₁ => match r with
      | none => R (.ok .next) s₁
      | some v => wpAny (model prog w) A (assign (.Name x px) env v) (fun _ s₂ => wpAny (model prog w) A (eval elt env) (fun x s₃ =>
          wpAny (model prog w) A (call (.builtin "list.append") [acc, x]) (fun _ s₄ => ∃ m, m < n ∧ I m s₄) E' s₃) E' s₂) E' s₁) E' s)
    (n : Nat) (h : I n s) : codeAny (model prog w) A (.compLoop (.ListComp elt gens scope pos) d it acc env) R s := by
  refine codeAny_loop rfl I (fun n s hI => ?_) n h
  show wpAny _ _ ((compTurn (.ListComp elt gens scope pos) d it acc env).onRaise (fun x => do noteFrame x env; theTreesLotGoes x)) _ _ s
  refine wpAny_noted ?_
  rw [compTurn_last it acc env h0 h1]
  refine wpAny_bind (wpAny_standAt (wpAny_bind (wpAny_mono (turn n s _ hI) (fun r s₁ h₁ => ?_) fun _ _ h' => h')))
  cases r with
  | none => exact wpAny_pure h₁
  | some v =>
    refine wpAny_bind (wpAny_of_eq (rfl : letOwnedTupleGo (.Name x px) it v = pure ()) ?_)
    exact wpAny_bind (wpAny_mono h₁ (fun _ s₂ h₂ => wpAny_bind (wpAny_bind (wpAny_mono h₂ (fun x s₃ h₃ => wpAny_bind (wpAny_mono h₃
      (fun _ s₄ h₄ => wpAny_pure (wpAny_pure ⟨rfl, h₄⟩)) fun _ _ h' => h')) fun _ _ h' => h'))) fun _ _ h' => h')
end
end Mine
namespace Mine
section
variable {prog : Program} {w : World} {A : Around} {E : Value → Shared → Prop} {s : Shared} {h₀ : Heap} {L C D : Addr} {m : PySem.Str → Option Value} {env : Env}
/-- inside a comprehension: its frame C, its list D, and what stands beside -/
inductive CS (h₀ : Heap) (L : Addr) (m : PySem.Str → Option Value) (s : Shared) (C D : Addr) (ys : List Value) (m₂ : PySem.Str → Option Value) (its : List (Addr × Obj)) (s' : Shared) : Prop
  | mk (h : Heap) (tk : Nat) (oC : Obj)
    (c0 : s' = { s with heap := h, toks := tk })
    (c1 : Fr h₀ L h m)
    (c2 : News h₀ L h ((C, oC) :: (D, LCg.lst ys) :: its))
    (c3 : LCg.NsObj oC m₂)
    (c4 : C ≠ D)
    (c5 : ∀ p ∈ its, p.1 ≠ C ∧ p.1 ≠ D) : CS h₀ L m s C D ys m₂ its s'
theorem news_put {a : Addr} {o o' : Obj} {h h' : Heap} {pre rest : List (Addr × Obj)} (N : News h₀ L h (pre ++ (a, o) :: rest)) (hs : Heap.ExtBut a h h') (ho : h'.get? a = some o') (off : ∀ p ∈ pre ++ rest, p.1 ≠ a) : News h₀ L h' (pre ++ (a, o') :: rest) := by
  intro p hp
  have za := N (a, o) (by simp)
  rcases List.mem_append.mp hp with hp | hp
  · have z := N p (List.mem_append_left _ hp)
    exact ⟨hs _ _ (off p (List.mem_append_left _ hp)) z.1, z.2⟩
  · rcases List.mem_cons.mp hp with rfl | hp
    · exact ⟨ho, za.2⟩
    · have z := N p (List.mem_append_right _ (.tail _ hp))
      exact ⟨hs _ _ (off p (List.mem_append_right _ hp)) z.1, z.2⟩
theorem fr_put {a : Addr} {h h' : Heap} (F : Fr h₀ L h m) (hs : Heap.ExtBut a h h') (ha : a ≠ L) (h0 : h₀.get? a = none) : Fr h₀ L h' m :=
  ⟨F.ns.at' fun o e => hs _ _ (Ne.symm ha) e, fun b o e => hs _ _ (fun q => by rw [q, h0] at e; cases e) (F.keep b o e), F.above⟩
theorem cs_next {ys : List Value} {m₂ : PySem.Str → Option Value} {rest : List (Addr × Obj)} {I : Addr} {x left : Int} {s' : Shared} (c : CS h₀ L m s C D ys m₂ ((I, itR x left) :: rest) s') (off : ∀ p ∈ rest, p.1 ≠ I) (hl : 0 < left) :
    wpAny (model prog w) A (pyNext (.ref I)) (fun r s'' => ∃ t, r = some (.int x t) ∧ CS h₀ L m s C D ys m₂ ((I, itR (x + 1) (left - 1)) :: rest) s'') E s' := by
  obtain ⟨h, tk, oC, rfl, F, N, hC, hCD, hoff⟩ := c
  have zI := N (I, itR x left) (by simp)
  have hI := hoff (I, itR x left) (by simp)
  refine wpAny_pyNext_range_item (x := x) (left := left) (step := 1) zI.1 hl fun h' hit' hs' => ?_
  refine ⟨_, rfl, h', tk + 1, oC, rfl, fr_put F hs'.extBut zI.2.1 zI.2.2, news_put (pre := [(C, oC), (D, LCg.lst ys)]) N hs'.extBut hit' fun p hp => ?_, hC, hCD, fun p hp => ?_⟩
  · simp only [List.cons_append, List.nil_append, List.mem_cons] at hp
    rcases hp with rfl | rfl | hp
    · exact Ne.symm hI.1
    · exact Ne.symm hI.2
    · exact off p hp
  · rcases List.mem_cons.mp hp with rfl | hp
    · exact hI
    · exact hoff p (.tail _ hp)
theorem cs_end {ys : List Value} {m₂ : PySem.Str → Option Value} {rest : List (Addr × Obj)} {I : Addr} {x left : Int} {s' : Shared} (hh : A.handled = none) (c : CS h₀ L m s C D ys m₂ ((I, itR x left) :: rest) s') (off : ∀ p ∈ rest, p.1 ≠ I) (hl : left ≤ 0) :
    wpAny (model prog w) A (pyNext (.ref I)) (fun r s'' => r = none ∧ CS h₀ L m s C D ys m₂ rest s'') E s' := by
  obtain ⟨h, tk, oC, rfl, F, N, hC, hCD, hoff⟩ := c
  have zI := N (I, itR x left) (by simp)
  have hI := hoff (I, itR x left) (by simp)
  refine wpAny_pyNext_range_end (x := x) (left := left) (step := 1) hh zI.1 hl fun h' hs' => ?_
  refine ⟨rfl, h', tk, oC, rfl, fr_put F hs' zI.2.1 zI.2.2, fun p hp => ?_, hC, hCD, fun p hp => hoff p (.tail _ hp)⟩
  rcases List.mem_cons.mp hp with rfl | hp
  · have z := N (C, oC) (by simp); exact ⟨hs' _ _ (Ne.symm hI.1) z.1, z.2⟩
  · rcases List.mem_cons.mp hp with rfl | hp
    · have z := N (D, LCg.lst ys) (by simp); exact ⟨hs' _ _ (Ne.symm hI.2) z.1, z.2⟩
    · have z := N p (by simp [hp]); exact ⟨hs' _ _ (off p hp) z.1, z.2⟩
theorem cs_assign {ys : List Value} {m₂ : PySem.Str → Option Value} {its : List (Addr × Obj)} {y : PySem.Str} {py : Pos} {v : Value} {s' : Shared} (c : CS h₀ L m s C D ys m₂ its s') (hC : env.locals = C) (hy : env.kindOf y = some .local)
    (hp : (env.scope.kind == .class || (env.scope.kind == .module && env.locals != env.globals)) = false) :
    wpAny (model prog w) A (assign (.Name y py) env v) (fun _ s'' => CS h₀ L m s C D ys (fun z => if z = y then some v else m₂ z) its s'') E s' := by
  subst hC
  obtain ⟨h, tk, oC, rfl, F, N, hC, hCD, hoff⟩ := c
  have zC := N (env.locals, oC) (by simp)
  refine wpAny_assign_Name (wpAny_storeName_local hy (hC.ns zC.1) (fun h' hn hs => ?_) hp)
  obtain ⟨oC', ho', hC'⟩ := LCg.ns_obj hn
  exact ⟨h', _, oC', rfl, fr_put F hs.extBut zC.2.1 zC.2.2, news_put (pre := []) N hs.extBut ho' (fun p hp => by
    rcases List.mem_cons.mp hp with rfl | hp
    · exact Ne.symm hCD
    · exact (hoff p hp).1), hC', hCD, hoff⟩
theorem cs_append {ys : List Value} {m₂ : PySem.Str → Option Value} {its : List (Addr × Obj)} {v : Value} {s' : Shared} (c : CS h₀ L m s C D ys m₂ its s') (hz : ys.length ≤ 100000) :
    wpAny (model prog w) A (call (.builtin "list.append") [.ref D, v]) (fun _ s'' => CS h₀ L m s C D (ys ++ [v]) m₂ its s'') E s' := by
  obtain ⟨h, tk, oC, rfl, F, N, hC, hCD, hoff⟩ := c
  have zD := N (D, LCg.lst ys) (by simp)
  refine append_at (hsz := by show ys.toArray.size ≤ sizeLine; rw [List.size_toArray, sizeLine_eq]; omega) zD.1 fun h' hs hD => ?_
  exact ⟨h', tk, oC, rfl, fr_put F hs.extBut zD.2.1 zD.2.2, news_put (pre := [(C, oC)]) N hs.extBut (hD.trans (congrArg some (LCg.lst_snoc ys v))) (fun p hp => by
    rcases List.mem_cons.mp hp with rfl | hp
    · exact hCD
    · exact (hoff p hp).2), hC, hCD, hoff⟩
theorem cs_iter {ys : List Value} {m₂ : PySem.Str → Option Value} {its : List (Addr × Obj)} {r : Addr} {n : Nat} {t u v : Tok} {s' : Shared} (c : CS h₀ L m s C D ys m₂ its s') (hr : IsRange s'.heap r 0 (n : Int) 1 t u v) (hsm : Builtin.Range.small 0 (n : Int) 1 = true) (hn : Builtin.Range.rangeSize 0 (n : Int) 1 = (n : Int)) :
    wpAny (model prog w) A (pyIter (.ref r)) (fun it s'' => ∃ I, it = .ref I ∧ CS h₀ L m s C D ys m₂ ((I, itR 0 (n : Int)) :: its) s'' ∧ ∀ p ∈ its, p.1 ≠ I) E s' := by
  obtain ⟨h, tk, oC, rfl, F, N, hC, hCD, hoff⟩ := c
  refine wpAny_pyIter_range hr hsm ?_
  rw [hn]
  have lt : ∀ p ∈ (C, oC) :: (D, LCg.lst ys) :: its, p.1 < h.objs.size := fun p hp => Heap.lt_size (N p hp).1
  refine ⟨_, rfl, ⟨_, tk, oC, rfl, F.push _, fun p hp => ?_, hC, hCD, fun p hp => ?_⟩, fun p hp => Nat.ne_of_lt (lt p (by simp [hp]))⟩
  · have N' := News.push F N (itR 0 (n : Int))
    have hp' : p ∈ (h.objs.size, itR 0 (n : Int)) :: (C, oC) :: (D, LCg.lst ys) :: its := by
      simp only [List.mem_cons] at hp ⊢
      rcases hp with hp | hp | hp | hp <;> simp [hp]
    exact N' p hp'
  · rcases List.mem_cons.mp hp with rfl | hp
    · exact ⟨Nat.ne_of_gt (lt (C, oC) (by simp)), Nat.ne_of_gt (lt (D, LCg.lst ys) (by simp))⟩
    · exact hoff p hp
end
end Mine
namespace Mine
def AreInts (ys : List Value) (ns : List Int) : Prop := ∃ ps : List (Int × Tok), ys = ps.map (fun p => .int p.1 p.2) ∧ ps.map (·.1) = ns
theorem AreInts.nil : AreInts [] [] := ⟨[], rfl, rfl⟩
theorem AreInts.snoc {ys : List Value} {ns : List Int} (h : AreInts ys ns) (n : Int) (t : Tok) : AreInts (ys ++ [.int n t]) (ns ++ [n]) := by
  obtain ⟨ps, rfl, rfl⟩ := h
  exact ⟨ps ++ [(n, t)], by simp, by simp⟩
theorem AreInts.length {ys : List Value} {ns : List Int} (h : AreInts ys ns) : ys.length = ns.length := by
  obtain ⟨ps, rfl, rfl⟩ := h; simp
theorem AreInts.ints {ys : List Value} {ns : List Int} (h : AreInts ys ns) : IntsAre ys ns := by
  obtain ⟨ps, rfl, rfl⟩ := h
  induction ps with
  | nil => exact .nil
  | cons p ps ih => exact .cons p.1 p.2 ih
theorem AreInts.at {ys : List Value} {ns : List Int} (h : AreInts ys ns) {i : Nat} {n : Int} (hn : ns[i]? = some n) : ∃ t, ys[i]? = some (.int n t) := by
  obtain ⟨ps, rfl, rfl⟩ := h
  rw [List.getElem?_map] at hn ⊢
  cases hp : ps[i]? with
  | none => rw [hp] at hn; cases hn
  | some p => rw [hp] at hn; cases hn; exact ⟨p.2, rfl⟩
section
variable {prog : Program} {w : World} {A : Around} {E : Value → Shared → Prop} {s : Shared} {h₀ : Heap} {L C D : Addr} {m : PySem.Str → Option Value} {env : Env}
/-- the state, the list's ints, and two ints of the frame -/
inductive C3 (h₀ : Heap) (L : Addr) (m : PySem.Str → Option Value) (s : Shared) (C D : Addr) (K : (PySem.Str → Option Value) → Prop) (ns : List Int) (its : List (Addr × Obj)) (s' : Shared) : Prop
  | mk (ys : List Value) (m₂ : PySem.Str → Option Value)
    (c0 : AreInts ys ns)
    (c1 : K m₂)
    (c2 : CS h₀ L m s C D ys m₂ its s') : C3 h₀ L m s C D K ns its s'
def Has (x : PySem.Str) (a : Int) (m₂ : PySem.Str → Option Value) : Prop := ∃ t, m₂ x = some (.int a t)
variable {elt : Expr} {gens : List Comprehension} {scope : Scope} {pos px : Pos} {x : PySem.Str} {i0 i1 tg : Expr} {d : Nat}
/-- the innermost turns -/
theorem c3_last (K : (PySem.Str → Option Value) → Prop) (f : Int → Int) (n : Nat) (hh : A.handled = none) (h0 : gens[d]? = some ⟨.Name x px, i0, [], 0⟩) (h1 : gens[d + 1]? = none) (hC : env.locals = C) (hy : env.kindOf x = some .local)
    (hp : (env.scope.kind == .class || (env.scope.kind == .module && env.locals != env.globals)) = false) (hK : ∀ m₂ v, K m₂ → K (fun z => if z = x then some v else m₂ z))
    (helt : ∀ a m₂ ys its s' (E' : Value → Shared → Prop), K m₂ → Has x a m₂ → CS h₀ L m s C D ys m₂ its s' → wpAny (model prog w) A (eval elt env) (fun v s'' => (∃ t, v = .int (f a) t) ∧ CS h₀ L m s C D ys m₂ its s'') E' s')
    {I : Addr} {ns : List Int} {rest : List (Addr × Obj)} {s' : Shared} (off : ∀ p ∈ rest, p.1 ≠ I) (hz : ns.length + n ≤ 1000) (c : C3 h₀ L m s C D K ns ((I, itR 0 (n : Int)) :: rest) s') :
    codeAny (model prog w) A (.compLoop (.ListComp elt gens scope pos) d (.ref I) (.ref D) env) (fun r s'' => (∃ g, r = .ok g) ∧ C3 h₀ L m s C D K (ns ++ (List.range n).map fun (c : Nat) => f (c : Int)) rest s'') s' := by
  refine loopLast h0 h1 (fun k s'' => ∃ i, i ≤ n ∧ k = n - i ∧ C3 h₀ L m s C D K (ns ++ (List.range i).map fun (c : Nat) => f (c : Int)) ((I, itR (i : Int) ((n - i : Nat) : Int)) :: rest) s'') ?_ n ⟨0, Nat.zero_le _, rfl, by simpa using c⟩
  rintro k s₁ E' ⟨i, hi, rfl, ys, m₂, hys, hk, c⟩
  by_cases hlt : i < n
  · refine wpAny_mono (cs_next c off (by omega)) (fun r s₂ h₂ => ?_) fun _ _ e => e
    obtain ⟨t, rfl, c⟩ := h₂
    refine wpAny_mono (cs_assign c hC hy hp) (fun _ s₃ c => ?_) fun _ _ e => e
    refine wpAny_mono (helt (i : Int) _ _ _ _ E' (hK _ _ hk) ⟨t, by simp⟩ c) (fun v s₄ h₄ => ?_) fun _ _ e => e
    obtain ⟨⟨t', rfl⟩, c⟩ := h₄
    have hl := hys.length
    rw [List.length_append, List.length_map, List.length_range] at hl
    refine wpAny_mono (cs_append c (by omega)) (fun _ s₅ c => ?_) fun _ _ e => e
    have e1 : ((i : Int) + 1) = ((i + 1 : Nat) : Int) := by omega
    have e2 : ((n - i : Nat) : Int) - 1 = ((n - (i + 1) : Nat) : Int) := by omega
    rw [e1, e2] at c
    refine ⟨n - (i + 1), by omega, i + 1, hlt, rfl, _, _, ?_, hK m₂ (.int (i : Int) t) hk, c⟩
    rw [List.range_succ, List.map_append, ← List.append_assoc]
    exact hys.snoc _ _
  · have : i = n := by omega
    subst this
    refine wpAny_mono (cs_end hh c off (by omega)) (fun r s₂ h₂ => ?_) fun _ _ e => e
    obtain ⟨rfl, c⟩ := h₂
    exact ⟨⟨_, rfl⟩, ys, m₂, hys, hk, c⟩
/-- the turns around -/
theorem c3_mid (K : (PySem.Str → Option Value) → Prop) (f : Int → List Int) (n k1 : Nat) (hh : A.handled = none) (h0 : gens[d]? = some ⟨.Name x px, i0, [], 0⟩) (h1 : gens[d + 1]? = some ⟨tg, i1, [], 0⟩) (hs : ∀ x, foldedSetIterable i1 env x = pure x) (hC : env.locals = C) (hy : env.kindOf x = some .local)
    (hp : (env.scope.kind == .class || (env.scope.kind == .module && env.locals != env.globals)) = false) (hK : ∀ m₂ v, K m₂ → K (fun z => if z = x then some v else m₂ z)) (hf : ∀ a, (f a).length = k1)
    (hiter : ∀ m₂ ys its s' (E' : Value → Shared → Prop), K m₂ → CS h₀ L m s C D ys m₂ its s' → wpAny (model prog w) A (eval i1 env) (fun v s'' => (∃ r t u v', v = .ref r ∧ IsRange s''.heap r 0 3 1 t u v') ∧ CS h₀ L m s C D ys m₂ its s'') E' s')
    (inner : ∀ a I ns rest s', (∀ p ∈ rest, p.1 ≠ I) → ns.length + k1 ≤ 500 → C3 h₀ L m s C D (fun m₂ => K m₂ ∧ Has x a m₂) ns ((I, itR 0 ((3 : Nat) : Int)) :: rest) s' →
      codeAny (model prog w) (A.mark none) (.compStart (.ListComp elt gens scope pos) (d + 1) (.ref I) (.ref D) env) (fun r s'' => (∃ g, r = .ok g) ∧ C3 h₀ L m s C D (fun m₂ => K m₂ ∧ Has x a m₂) (ns ++ f a) rest s'') s')
    {I : Addr} {ns : List Int} {rest : List (Addr × Obj)} {s' : Shared} (off : ∀ p ∈ rest, p.1 ≠ I) (hz : ns.length + n * k1 ≤ 500) (c : C3 h₀ L m s C D K ns ((I, itR 0 (n : Int)) :: rest) s') :
    codeAny (model prog w) A (.compLoop (.ListComp elt gens scope pos) d (.ref I) (.ref D) env) (fun r s'' => (∃ g, r = .ok g) ∧ C3 h₀ L m s C D K (ns ++ (List.range n).flatMap fun (c : Nat) => f (c : Int)) rest s'') s' := by
  have hlen : ∀ i : Nat, ((List.range i).flatMap fun (c : Nat) => f (c : Int)).length = i * k1 := fun i => by
    induction i with
    | zero => simp
    | succ i ih => rw [List.range_succ, List.flatMap_append, List.length_append, ih]; simp [hf, Nat.succ_mul]
  refine loopMid h0 h1 hs (fun k s'' => ∃ i, i ≤ n ∧ k = n - i ∧ C3 h₀ L m s C D K (ns ++ (List.range i).flatMap fun (c : Nat) => f (c : Int)) ((I, itR (i : Int) ((n - i : Nat) : Int)) :: rest) s'') ?_ n ⟨0, Nat.zero_le _, rfl, by simpa using c⟩
  rintro k s₁ E' ⟨i, hi, rfl, ys, m₂, hys, hk, c⟩
  by_cases hlt : i < n
  · refine wpAny_mono (cs_next c off (by omega)) (fun r s₂ h₂ => ?_) fun _ _ e => e
    obtain ⟨t, rfl, c⟩ := h₂
    refine wpAny_mono (cs_assign c hC hy hp) (fun _ s₃ c => ?_) fun _ _ e => e
    refine wpAny_mono (hiter _ _ _ _ E' (hK _ _ hk) c) (fun xv s₄ h₄ => ?_) fun _ _ e => e
    obtain ⟨⟨r, t1, u1, v1, rfl, hr⟩, c⟩ := h₄
    refine wpAny_mono (cs_iter (n := 3) c hr (by decide) (by decide)) (fun it s₅ h₅ => ?_) fun _ _ e => e
    obtain ⟨I', rfl, c, off'⟩ := h₅
    have hl1 : (i + 1) * k1 ≤ n * k1 := Nat.mul_le_mul_right _ hlt
    rw [Nat.succ_mul] at hl1
    refine codeAny_mono (inner (i : Int) I' _ _ _ off' (by rw [List.length_append, hlen]; omega) ⟨_, _, hys, ⟨hK _ _ hk, t, by simp⟩, c⟩) fun r s₆ h₆ => ?_
    obtain ⟨⟨g, rfl⟩, ys', m₂', hys', ⟨hk', _⟩, c⟩ := h₆
    refine ⟨n - (i + 1), by omega, i + 1, hlt, rfl, ys', m₂', ?_, hk', ?_⟩
    · rw [List.range_succ, List.flatMap_append, ← List.append_assoc]
      simpa using hys'
    · have e1 : ((i : Int) + 1) = ((i + 1 : Nat) : Int) := by omega
      have e2 : ((n - i : Nat) : Int) - 1 = ((n - (i + 1) : Nat) : Int) := by omega
      rw [e1, e2] at c
      exact c
  · have : i = n := by omega
    subst this
    refine wpAny_mono (cs_end hh c off (by omega)) (fun r s₂ h₂ => ?_) fun _ _ e => e
    obtain ⟨rfl, c⟩ := h₂
    exact ⟨⟨_, rfl⟩, ys, m₂, hys, hk, c⟩
/-- the start asks the iterator for itself -/
theorem c3_start {A : Around} {K : (PySem.Str → Option Value) → Prop} {I : Addr} {y left : Int} {ns : List Int} {rest : List (Addr × Obj)} {R : Result → Shared → Prop} {s' : Shared} (hd : gens[d]? = some ⟨.Name x px, i0, [], 0⟩) (c : C3 h₀ L m s C D K ns ((I, itR y left) :: rest) s')
    (h : codeAny (model prog w) A (.compLoop (.ListComp elt gens scope pos) d (.ref I) (.ref D) env) R s') :
    codeAny (model prog w) A (.compStart (.ListComp elt gens scope pos) d (.ref I) (.ref D) env) R s' := by
  refine compStart_d hd h fun E' => ?_
  obtain ⟨ys, m₂, hys, hk, h', tk, oC, rfl, F, N, hC, hCD, hoff⟩ := c
  have zI := N (I, itR y left) (by simp)
  exact wpAny_pyIter_rangeiter (x := y) (left := left) (step := 1) zI.1 h
end
end Mine
namespace Mine
section
variable {prog : Program} {w : World} {A : Around} {E : Value → Shared → Prop} {s : Shared} {h₀ : Heap} {L : Addr} {m : PySem.Str → Option Value} {env : Env}
def tri (f : Int → Int → Int → Int) : List Int := (List.range 3).flatMap fun (a : Nat) => (List.range 3).flatMap fun (b : Nat) => (List.range 3).map fun (c : Nat) => f (a : Int) (b : Int) (c : Int)
inductive Src3 (h₀ : Heap) (L : Addr) (m : PySem.Str → Option Value) (f : Int → Int → Int → Int) (Q : Value → Shared → Prop) (xv : Value) (s₁ : Shared) : Prop
  | mk (r : Addr) (t u v : Tok) (news : List (Addr × Obj))
    (c0 : xv = .ref r)
    (c1 : IsRange s₁.heap r 0 3 1 t u v)
    (c2 : Fr h₀ L s₁.heap m)
    (c3 : News h₀ L s₁.heap news)
    (c4 : ∀ D h tk ys, AreInts ys (tri f) → Fr h₀ L h m → News h₀ L h ((D, LCg.lst ys) :: news) → (∀ p ∈ news, p.1 ≠ D) → Q (.ref D) { s₁ with heap := h, toks := tk }) : Src3 h₀ L m f Q xv s₁
/-- three ranges of three, one within the other -/
theorem comp3 {x y z : PySem.Str} {px py pz pos : Pos} {i0 i1 i2 elt : Expr} {scope : Scope} {cl : List (PySem.Str × Addr)} {Q : Value → Shared → Prop} (f : Int → Int → Int → Int) (_F₀ : Fr h₀ L s.heap m) (hh : A.handled = none) (hyx : x ≠ y) (hzx : x ≠ z) (hzy : y ≠ z)
    (hclos : closureFor scope env = pure cl) (hcell : ∀ y ∈ scope.names, y.2 ≠ .cell) (hkind : scope.kind = .function)
    (hnames : ∀ y ∈ scope.names, y.2 = .local → scope.names.lookup y.1 = some .local) (hx : scope.names.lookup x = some .local) (hy : scope.names.lookup y = some .local) (hz : scope.names.lookup z = some .local)
    (hs0 : ∀ x, foldedSetIterable i0 env x = pure x) (hs1 : ∀ C x, foldedSetIterable i1 (compEnvC scope cl C env) x = pure x) (hs2 : ∀ C x, foldedSetIterable i2 (compEnvC scope cl C env) x = pure x)
    (hi1 : ∀ sb C D m₂ ys its s' (E' : Value → Shared → Prop), CS h₀ L m sb C D ys m₂ its s' → wpAny (model prog w) A (eval i1 (compEnvC scope cl C env)) (fun v s'' => (∃ r t u v', v = .ref r ∧ IsRange s''.heap r 0 3 1 t u v') ∧ CS h₀ L m sb C D ys m₂ its s'') E' s')
    (hi2 : ∀ sb C D m₂ ys its s' (E' : Value → Shared → Prop), CS h₀ L m sb C D ys m₂ its s' → wpAny (model prog w) (A.mark none) (eval i2 (compEnvC scope cl C env)) (fun v s'' => (∃ r t u v', v = .ref r ∧ IsRange s''.heap r 0 3 1 t u v') ∧ CS h₀ L m sb C D ys m₂ its s'') E' s')
    (helt : ∀ a b c sb C D m₂ ys its s' (E' : Value → Shared → Prop), Has x a m₂ → Has y b m₂ → Has z c m₂ → CS h₀ L m sb C D ys m₂ its s' → wpAny (model prog w) ((A.mark none).mark none) (eval elt (compEnvC scope cl C env)) (fun v s'' => (∃ t, v = .int (f a b c) t) ∧ CS h₀ L m sb C D ys m₂ its s'') E' s')
    (h : wpAny (model prog w) A (eval i0 env) (Src3 h₀ L m f Q) E s) :
    wpAny (model prog w) A (eval (.ListComp elt [⟨.Name x px, i0, [], 0⟩, ⟨.Name y py, i1, [], 0⟩, ⟨.Name z pz, i2, [], 0⟩] scope pos) env) Q E s := by
  rw [eval_ListComp]
  refine wpAny_comprehension_free (use := none) rfl hs0 hclos hkind hnames (wpAny_mono h (fun xv s₁ h₁ => ?_) fun _ _ e => e)
  obtain ⟨r, t, u, v, news, rfl, hr, F, N, fin⟩ := h₁
  refine wpAny_pyIter_range hr (by decide) ?_
  have hrs : Builtin.Range.rangeSize 0 3 1 = 3 := by decide
  rw [hrs]
  have F2 : Fr h₀ L (s₁.heap.push (itR 0 3)) m := F.push _
  have N2 : News h₀ L (s₁.heap.push (itR 0 3)) ((s₁.heap.objs.size, itR 0 3) :: news) := News.push F N _
  have off1 : ∀ p ∈ news, p.1 ≠ s₁.heap.objs.size := fun p hp => Nat.ne_of_lt (Heap.lt_size (N p hp).1)
  show wpAny _ _ (newList []) _ _ { s₁ with heap := s₁.heap.push (itR 0 3) }
  generalize s₁.heap.objs.size = I at N2 off1
  generalize s₁.heap.push (itR 0 3) = H1 at F2 N2
  refine wpAny_newObj_type (wpAny_newFunctionEnv hcell (by intro y hy; simp at hy) (fun h₁ hns₁ hsb₁ => ?_) hkind)
  dsimp only at hns₁ hsb₁ ⊢
  have F3 : Fr h₀ L (H1.push (LCg.lst [])) m := F2.push _
  have N3 : News h₀ L (H1.push (LCg.lst [])) ((H1.objs.size, LCg.lst []) :: (I, itR 0 3) :: news) := News.push F2 N2 _
  have off3 : ∀ p ∈ (I, itR 0 3) :: news, p.1 ≠ H1.objs.size := fun p hp => Nat.ne_of_lt (Heap.lt_size (N2 p hp).1)
  have hH2 : H1.push { cls := .type "list", dict := none, data := .seq ([] : List Value).toArray } = H1.push (LCg.lst []) := rfl
  rw [hH2] at hns₁ hsb₁ ⊢
  generalize H1.objs.size = D at N3 off3 ⊢
  generalize H1.push (LCg.lst []) = H2 at F3 N3 hns₁ hsb₁ ⊢
  have lt3 : ∀ p ∈ (D, LCg.lst []) :: (I, itR 0 3) :: news, p.1 < H2.objs.size := fun p hp => Heap.lt_size (N3 p hp).1
  have up : ∀ b o, H2.get? b = some o → h₁.get? b = some o := fun b o e => hsb₁.extBut b o (Nat.ne_of_lt (Heap.lt_size e)) (Heap.get?_push_of_some _ e)
  obtain ⟨oC, hoC, hNs⟩ := LCg.ns_obj hns₁
  have F4 : Fr h₀ L h₁ m := F3.keeps up
  have hCL : H2.objs.size ≠ L := Ne.symm (Nat.ne_of_lt F3.ns.lt)
  have hC0 : h₀.get? H2.objs.size = none := next_is_new F3
  generalize H2.objs.size = C at *
  have cs0 : CS h₀ L m s₁ C D [] (fun _ => none) ((I, itR 0 3) :: news) { s₁ with heap := h₁, toks := s₁.toks + ([] : List (PySem.Str × Value)).length } := by
    refine ⟨h₁, _, oC, rfl, F4, fun p hp => ?_, hNs, Ne.symm (Nat.ne_of_lt (lt3 (D, LCg.lst []) (by simp))), fun p hp => ⟨Nat.ne_of_lt (lt3 p (.tail _ hp)), off3 p hp⟩⟩
    rcases List.mem_cons.mp hp with rfl | hp
    · exact ⟨hoC, hCL, hC0⟩
    · exact ⟨up _ _ (N3 p hp).1, (N3 p hp).2⟩
  have kx : ∀ {q : PySem.Str}, scope.names.lookup q = some .local → (compEnvC scope cl C env).kindOf q = some .local := fun hq => lookup_relabel_local hq
  have hpp : ((compEnvC scope cl C env).scope.kind == .class || ((compEnvC scope cl C env).scope.kind == .module && (compEnvC scope cl C env).locals != (compEnvC scope cl C env).globals)) = false := by simp [compEnvC, relabel, hkind]
  have hasK : ∀ {q q' : PySem.Str} {a : Int} {m₂ : PySem.Str → Option Value} {v : Value}, q ≠ q' → Has q a m₂ → Has q a (fun z => if z = q' then some v else m₂ z) := fun hq ⟨t, e⟩ => ⟨t, (if_neg hq).trans e⟩
  have key := c3_start (prog := prog) (w := w) (A := A) (elt := elt) (gens := [⟨.Name x px, i0, [], 0⟩, ⟨.Name y py, i1, [], 0⟩, ⟨.Name z pz, i2, [], 0⟩]) (scope := scope) (pos := pos) (env := compEnvC scope cl C env) (d := 0) (R := fun r s'' => (∃ g, r = .ok g) ∧ C3 h₀ L m s₁ C D (fun _ => True) ([] ++ tri f) news s'') rfl
    (K := fun _ => True) (ns := []) ⟨[], _, AreInts.nil, trivial, cs0⟩
    (c3_mid (fun _ => True) (fun a => (List.range 3).flatMap fun (b : Nat) => (List.range 3).map fun (c : Nat) => f a (b : Int) (c : Int)) 3 9 hh rfl rfl (hs1 C) rfl (kx hx) hpp (fun _ _ _ => trivial) (fun a => rfl) (fun m₂ ys its s' E' _ c => hi1 s₁ C D m₂ ys its s' E' c)
      (fun a I1 ns1 rest1 s1 off1 hz1 c1 => c3_start rfl c1 (c3_mid _ (fun b => (List.range 3).map fun (c : Nat) => f a b (c : Int)) 3 3 hh rfl rfl (hs2 C) rfl (kx hy) hpp (fun _ _ k => ⟨trivial, hasK hyx k.2⟩) (fun b => rfl) (fun m₂ ys its s' E' _ c => hi2 s₁ C D m₂ ys its s' E' c)
        (fun b I2 ns2 rest2 s2 off2 hz2 c2 => c3_start rfl c2 (c3_last _ (fun c => f a b c) 3 hh rfl rfl rfl (kx hz) hpp (fun _ _ k => ⟨⟨trivial, hasK hzx k.1.2⟩, hasK hzy k.2⟩)
          (fun c m₂ ys its s' E' k hc cs => helt a b c s₁ C D m₂ ys its s' E' k.1.2 k.2 hc cs) off2 (by omega) c2)) off1 (by omega) c1)) off1 (by decide) ⟨[], _, AreInts.nil, trivial, cs0⟩)
  refine codeAny_mono key fun r s'' hr => ?_
  obtain ⟨⟨g, rfl⟩, ys, m₂, hys, _, h', tk, oC', rfl, F', N', hNs', hCD, hoff⟩ := hr
  exact ⟨m₂, hNs'.ns (N' _ (.head _)).1, fun h'' hs'' => fin D h'' tk ys (by simpa using hys) (F'.change hs'' hCL hC0) (PySem.W.kas_news N'.tail' hs'' (head_off hCD fun p hp => (hoff p hp).1)) fun p hp => (hoff p hp).2⟩
end
end Mine
end SComp3
section SCompE
open PySem PySem.W PyProof.Rows PySem.Calls
set_option Elab.async false
set_option maxRecDepth 100000
set_option autoImplicit false
namespace Mine
section
variable {prog : Program} {w : World} {A : Around} {E : Value → Shared → Prop} {s : Shared} {h₀ : Heap} {L C D : Addr} {m : PySem.Str → Option Value} {env : Env}
/-- how an enumeration of a list stands -/
def EnSt (e it l : Addr) (vs : List Value) (i : Nat) (h : Heap) : Prop := (∃ old, IsEnum h e it i old) ∧ h.IsListIter it l i ∧ h.IsList l vs.toArray
inductive ES (h₀ : Heap) (L : Addr) (m : PySem.Str → Option Value) (s : Shared) (C D e it l : Addr) (vs : List Value) (news : List (Addr × Obj)) (i : Nat) (ys : List Value) (s' : Shared) : Prop
  | mk (m₂ : PySem.Str → Option Value) (oe oi : Obj)
    (c0 : CS h₀ L m s C D ys m₂ ((e, oe) :: (it, oi) :: news) s')
    (c1 : EnSt e it l vs i s'.heap) : ES h₀ L m s C D e it l vs news i ys s'
theorem cs_put2 {e it : Addr} {oe oi : Obj} {news : List (Addr × Obj)} {ys : List Value} {m₂ : PySem.Str → Option Value} {h h' : Heap} {tk tk' : Nat} (c : CS h₀ L m s C D ys m₂ ((e, oe) :: (it, oi) :: news) { s with heap := h, toks := tk }) (off : ∀ p ∈ news, p.1 ≠ e ∧ p.1 ≠ it)
    (hk : ∀ b o, b ∉ [e, it] → h.get? b = some o → h'.get? b = some o) (he : ∃ o, h'.get? e = some o) (hi : ∃ o, h'.get? it = some o) :
    ∃ oe' oi', CS h₀ L m s C D ys m₂ ((e, oe') :: (it, oi') :: news) { s with heap := h', toks := tk' } := by
  obtain ⟨h1, tk1, oC, e1, F, N, hC, hCD, hoff⟩ := c
  have eh : h1 = h := by injection e1 with a; exact a.symm
  subst eh
  obtain ⟨oe', he⟩ := he
  obtain ⟨oi', hi⟩ := hi
  have ze := N (e, oe) (by simp)
  have zi := N (it, oi) (by simp)
  have oe1 := hoff (e, oe) (by simp)
  have oi1 := hoff (it, oi) (by simp)
  refine ⟨oe', oi', h', tk', oC, rfl, ⟨F.ns.at' fun o x => hk _ _ ?_ x, fun b o x => hk b o ?_ (F.keep b o x), F.above⟩, fun p hp => ?_, hC, hCD, fun p hp => ?_⟩
  · intro hm
    rcases List.mem_cons.mp hm with q | hm
    · exact ze.2.1 q.symm
    · exact zi.2.1 (List.mem_singleton.mp hm).symm
  · intro hm
    rcases List.mem_cons.mp hm with q | hm
    · have := ze.2.2; rw [← q, x] at this; cases this
    · have := zi.2.2; rw [← List.mem_singleton.mp hm, x] at this; cases this
  · have keep : ∀ q : Addr × Obj, q ∈ (C, oC) :: (D, LCg.lst ys) :: (e, oe) :: (it, oi) :: news → q.1 ∉ [e, it] → h'.get? q.1 = some q.2 ∧ q.1 ≠ L ∧ h₀.get? q.1 = none := fun q hq hn => ⟨hk _ _ hn (N q hq).1, (N q hq).2⟩
    simp only [List.mem_cons] at hp
    rcases hp with rfl | rfl | rfl | rfl | hp
    · refine keep _ (by simp) ?_
      simp only [List.mem_cons, List.not_mem_nil, or_false, not_or]
      exact ⟨Ne.symm oe1.1, Ne.symm oi1.1⟩
    · refine keep _ (by simp) ?_
      simp only [List.mem_cons, List.not_mem_nil, or_false, not_or]
      exact ⟨Ne.symm oe1.2, Ne.symm oi1.2⟩
    · exact ⟨he, ze.2⟩
    · exact ⟨hi, zi.2⟩
    · refine keep p (by simp [hp]) ?_
      simp only [List.mem_cons, List.not_mem_nil, or_false, not_or]
      exact off p hp
  · simp only [List.mem_cons] at hp
    rcases hp with rfl | rfl | hp
    · exact oe1
    · exact oi1
    · exact hoff p (by simp [hp])
theorem enSt_of {e it l : Addr} {vs : List Value} {i : Nat} {ys ys' : List Value} {m₂ m₃ : PySem.Str → Option Value} {oe oi lo : Obj} {news : List (Addr × Obj)} {s1 s2 : Shared} (hl : (l, lo) ∈ news)
    (c : CS h₀ L m s C D ys m₂ ((e, oe) :: (it, oi) :: news) s1) (c' : CS h₀ L m s C D ys' m₃ ((e, oe) :: (it, oi) :: news) s2) (st : EnSt e it l vs i s1.heap) : EnSt e it l vs i s2.heap := by
  obtain ⟨h1, tk1, oC, rfl, F, N, hC, hCD, hoff⟩ := c
  obtain ⟨h2, tk2, oC2, rfl, F2, N2, hC2, hCD2, hoff2⟩ := c'
  obtain ⟨⟨old, he⟩, hi, hls⟩ := st
  have key : ∀ p : Addr × Obj, p ∈ (e, oe) :: (it, oi) :: news → ∀ o, h1.get? p.1 = some o → h2.get? p.1 = some o := fun p hp o ho => by
    rw [(N p (.tail _ (.tail _ hp))).1] at ho
    cases ho
    exact (N2 p (.tail _ (.tail _ hp))).1
  exact ⟨⟨old, key (e, oe) (.head _) _ he⟩, hi.at fun o x => key (it, oi) (.tail _ (.head _)) o x, hls.at fun o x => key (l, lo) (.tail _ (.tail _ hl)) o x⟩
end
end Mine
namespace Mine
section
variable {prog : Program} {w : World} {A : Around} {E : Value → Shared → Prop} {s : Shared} {h₀ : Heap} {L C D : Addr} {m : PySem.Str → Option Value} {env : Env}
theorem cs_heap {ys : List Value} {m₂ : PySem.Str → Option Value} {its : List (Addr × Obj)} {h h' : Heap} {tk tk' : Nat} (c : CS h₀ L m s C D ys m₂ its { s with heap := h, toks := tk }) (hk : ∀ b o, h.get? b = some o → h'.get? b = some o) : CS h₀ L m s C D ys m₂ its { s with heap := h', toks := tk' } := by
  obtain ⟨h1, tk1, oC, e1, F, N, hC, hCD, hoff⟩ := c
  have eh : h1 = h := by injection e1 with a; exact a.symm
  subst eh
  exact ⟨h', tk', oC, rfl, F.keeps hk, fun p hp => ⟨hk _ _ (N p hp).1, (N p hp).2⟩, hC, hCD, hoff⟩
theorem cs_drop2 {e it : Addr} {oe oi : Obj} {news : List (Addr × Obj)} {ys : List Value} {m₂ : PySem.Str → Option Value} {h h' : Heap} {tk tk' : Nat} (c : CS h₀ L m s C D ys m₂ ((e, oe) :: (it, oi) :: news) { s with heap := h, toks := tk }) (off : ∀ p ∈ news, p.1 ≠ e ∧ p.1 ≠ it)
    (hk : ∀ b o, b ∉ [e, it] → h.get? b = some o → h'.get? b = some o) : CS h₀ L m s C D ys m₂ news { s with heap := h', toks := tk' } := by
  obtain ⟨h1, tk1, oC, e1, F, N, hC, hCD, hoff⟩ := c
  have eh : h1 = h := by injection e1 with a; exact a.symm
  subst eh
  have ze := N (e, oe) (by simp)
  have zi := N (it, oi) (by simp)
  have oe1 := hoff (e, oe) (by simp)
  have oi1 := hoff (it, oi) (by simp)
  refine ⟨h', tk', oC, rfl, ⟨F.ns.at' fun o x => hk _ _ ?_ x, fun b o x => hk b o ?_ (F.keep b o x), F.above⟩, fun p hp => ?_, hC, hCD, fun p hp => hoff p (by simp [hp])⟩
  · intro hm
    rcases List.mem_cons.mp hm with q | hm
    · exact ze.2.1 q.symm
    · exact zi.2.1 (List.mem_singleton.mp hm).symm
  · intro hm
    rcases List.mem_cons.mp hm with q | hm
    · have := ze.2.2; rw [← q, x] at this; cases this
    · have := zi.2.2; rw [← List.mem_singleton.mp hm, x] at this; cases this
  · have keep : ∀ q : Addr × Obj, q ∈ (C, oC) :: (D, LCg.lst ys) :: (e, oe) :: (it, oi) :: news → q.1 ∉ [e, it] → h'.get? q.1 = some q.2 ∧ q.1 ≠ L ∧ h₀.get? q.1 = none := fun q hq hn => ⟨hk _ _ hn (N q hq).1, (N q hq).2⟩
    simp only [List.mem_cons] at hp
    rcases hp with rfl | rfl | hp
    · refine keep _ (by simp) ?_
      simp only [List.mem_cons, List.not_mem_nil, or_false, not_or]
      exact ⟨Ne.symm oe1.1, Ne.symm oi1.1⟩
    · refine keep _ (by simp) ?_
      simp only [List.mem_cons, List.not_mem_nil, or_false, not_or]
      exact ⟨Ne.symm oe1.2, Ne.symm oi1.2⟩
    · refine keep p (by simp [hp]) ?_
      simp only [List.mem_cons, List.not_mem_nil, or_false, not_or]
      exact off p hp
theorem en_loop {e it l : Addr} {vs : List Value} {ps : List Int} {nn : Nat} {news : List (Addr × Obj)} {x y : PySem.Str} {px py tp pos : Pos} {k : Nat} {elt iter : Expr} {scope : Scope} (f : Int → Int → Int) (hh : A.handled = none) (hC : env.locals = C) (hx : env.kindOf x = some .local) (hy : env.kindOf y = some .local)
    (hp : (env.scope.kind == .class || (env.scope.kind == .module && env.locals != env.globals)) = false) (hxy : x ≠ y) (hei : e ≠ it) (hle : l ≠ e) (hli : l ≠ it) (off : ∀ p ∈ news, p.1 ≠ e ∧ p.1 ≠ it) (hl : (l, listOf vs.toArray nn) ∈ news) (hvs : AreInts vs ps) (hz : vs.length ≤ 1000)
    (helt : ∀ i b m₂ ys oe oi s' (E' : Value → Shared → Prop), Has x i m₂ → Has y b m₂ → CS h₀ L m s C D ys m₂ ((e, oe) :: (it, oi) :: news) s' → wpAny (model prog w) A (eval elt env) (fun v s'' => (∃ t, v = .int (f i b) t) ∧ CS h₀ L m s C D ys m₂ ((e, oe) :: (it, oi) :: news) s'') E' s')
    {s' : Shared} (c : ES h₀ L m s C D e it l vs news 0 [] s') :
    codeAny (model prog w) A (.compLoop (.ListComp elt [⟨.Tuple [.Name x px, .Name y py] k tp, iter, [], 0⟩] scope pos) 0 (.ref e) (.ref D) env)
      (fun r s'' => (∃ g, r = .ok g) ∧ ∃ ys m₂, AreInts ys ((List.range vs.length).map fun (i : Nat) => f (i : Int) (ps.getD i 0)) ∧ CS h₀ L m s C D ys m₂ news s'') s' := by
  have W := WalksT.enumerate (prog := prog) (w := w) hh e it l hei hle hli vs.toArray
  have hsz : vs.toArray.size = vs.length := by simp
  rw [hsz] at W
  refine LCp.codeAny_compLoop_pair (fun kk s'' => ∃ i ys, i ≤ vs.length ∧ kk = vs.length - i ∧ AreInts ys ((List.range i).map fun (i : Nat) => f (i : Int) (ps.getD i 0)) ∧ ES h₀ L m s C D e it l vs news i ys s'') ?_ vs.length ⟨0, [], Nat.zero_le _, rfl, AreInts.nil, c⟩
  rintro kk s₁ ⟨i, ys, hi, rfl, hys, m₂, oe, oi, c, st⟩
  obtain ⟨h1, tk1, oC, rfl, F, N, hCo, hCD, hoff⟩ := id c
  by_cases hlt : i < vs.length
  · refine W.item i _ _ _ hlt st fun T vals h2 tk2 hP hT hTup hMid hk2 => ?_
    refine W.go _ _ _ i T _ _ _ hMid fun h3 hst3 hk3 => ?_
    have hk13 : ∀ b o, b ∉ [e, it] → h1.get? b = some o → h3.get? b = some o := fun b o hb x => hk3 b o hb (hk2 b o hb x)
    have st3 : EnSt e it l vs (i + 1) h3 := hst3
    obtain ⟨oe3, oi3, c3⟩ := cs_put2 (h' := h3) (tk' := tk2) c off hk13 (by obtain ⟨⟨old, x⟩, _, _⟩ := st3; exact ⟨_, x⟩) (by obtain ⟨_, ⟨o, x, _⟩, _⟩ := st3; exact ⟨_, x⟩)
    have hTup3 : IsTup h3 T vals := by
      obtain ⟨o, x, r⟩ := hTup
      exact ⟨o, hk3 T o (W.apart i T _ hMid) x, r⟩
    obtain ⟨t, v, hv, rfl⟩ := hP
    have hv' : vs[i]? = some v := by simpa using hv
    have hb : ps[i]? = some (ps.getD i 0) := by
      have : i < ps.length := by rw [← hvs.length]; exact hlt
      simp [List.getD, this]
    obtain ⟨t2, hv2⟩ := hvs.at hb
    rw [hv'] at hv2
    cases hv2
    refine assign_Tuple_tuple hh hTup3 rfl rfl fun h4 hk4 => ?_
    have c4 := cs_heap (h' := h4) (tk' := tk2) c3 (fun b o x => hk4 b o (Nat.ne_of_lt (Heap.lt_size x)) x)
    have st4 := enSt_of hl c3 c4 st3
    refine assignInOrder_cons (wpAny_mono (cs_assign (py := px) (v := .int (i : Int) t) c4 hC hx hp) (fun _ s₅ c5 => ?_) fun _ _ e => e)
    refine assignInOrder_cons (wpAny_mono (cs_assign (py := py) (v := .int (ps.getD i 0) t2) c5 hC hy hp) (fun _ s₆ c6 => ?_) fun _ _ e => e)
    refine assignInOrder_nil ?_
    refine wpAny_mono (helt (i : Int) (ps.getD i 0) _ _ _ _ _ _ ⟨t, by simp [hxy]⟩ ⟨t2, by simp⟩ c6) (fun v s₇ h7 => ?_) fun _ _ e => e
    obtain ⟨⟨t', rfl⟩, c7⟩ := h7
    have hl7 := hys.length
    rw [List.length_map, List.length_range] at hl7
    refine wpAny_mono (cs_append c7 (by omega)) (fun _ s₈ c8 => ?_) fun _ _ e => e
    refine ⟨vs.length - (i + 1), by omega, i + 1, _, hlt, rfl, ?_, _, oe3, oi3, c8, enSt_of hl c4 c8 st4⟩
    rw [List.range_succ, List.map_append]
    exact hys.snoc _ _
  · have : i = vs.length := by omega
    subst this
    refine W.done _ _ _ st fun h2 tk2 hk2 => ?_
    exact ⟨⟨_, rfl⟩, ys, m₂, hys, cs_drop2 c off hk2⟩
def ENd (h₀ : Heap) (L : Addr) (m : PySem.Str → Option Value) (s : Shared) (C D : Addr) (ys : List Value) (m₂ : PySem.Str → Option Value) (its : List (Addr × Obj)) (n : Int) (v : Value) (s'' : Shared) : Prop := (∃ t, v = .int n t) ∧ CS h₀ L m s C D ys m₂ its s''
theorem ENd.intro {C D : Addr} {ys : List Value} {m₂ : PySem.Str → Option Value} {its all : List (Addr × Obj)} {n n' : Int} {t : Tok} {h' : Heap} {tk' : Nat} {oC : Obj} (e : n' = n) (F : Fr h₀ L h' m) (N : News h₀ L h' all) (sub : ∀ p ∈ (C, oC) :: (D, LCg.lst ys) :: its, p ∈ all) (hC : LCg.NsObj oC m₂) (hCD : C ≠ D) (hoff : ∀ p ∈ its, p.1 ≠ C ∧ p.1 ≠ D) :
    ENd h₀ L m s C D ys m₂ its n (.int n' t) { s with heap := h', toks := tk' } := ⟨⟨t, by rw [e]⟩, h', tk', oC, rfl, F, fun p hp => N p (sub p hp), hC, hCD, hoff⟩
inductive EnSrc (prog : Program) (w : World) (A : Around) (env : Env) (elt : Expr) (x y : PySem.Str) (scope : Scope) (cl : List (PySem.Str × Addr)) (h₀ : Heap) (L : Addr) (m : PySem.Str → Option Value) (f : Int → Int → Int) (Q : Value → Shared → Prop) (xv : Value) (s₁ : Shared) : Prop
  | mk (e it l : Addr) (vs : List Value) (ps : List Int) (nn : Nat) (oe oi : Obj) (news : List (Addr × Obj))
    (c0 : xv = .ref e)
    (c1 : Fr h₀ L s₁.heap m)
    (c2 : News h₀ L s₁.heap ((e, oe) :: (it, oi) :: news))
    (c3 : EnSt e it l vs 0 s₁.heap)
    (c4 : e ≠ it)
    (c5 : l ≠ e)
    (c6 : l ≠ it)
    (c7 : (∀ p ∈ news, p.1 ≠ e ∧ p.1 ≠ it))
    (c8 : (l, listOf vs.toArray nn) ∈ news)
    (c9 : AreInts vs ps)
    (c10 : vs.length ≤ 1000)
    (c11 : (∀ i b sb C D m₂ ys oe oi s' (E' : Value → Shared → Prop), Has x i m₂ → Has y b m₂ → CS h₀ L m sb C D ys m₂ ((e, oe) :: (it, oi) :: news) s' → wpAny (model prog w) A (eval elt (compEnvC scope cl C env)) (ENd h₀ L m sb C D ys m₂ ((e, oe) :: (it, oi) :: news) (f i b)) E' s'))
    (c12 : ∀ D h tk ys, AreInts ys ((List.range vs.length).map fun (i : Nat) => f (i : Int) (ps.getD i 0)) → Fr h₀ L h m → News h₀ L h ((D, LCg.lst ys) :: news) → (∀ p ∈ news, p.1 ≠ D) → Q (.ref D) { s₁ with heap := h, toks := tk }) : EnSrc prog w A env elt x y scope cl h₀ L m f Q xv s₁
theorem enumN {l : Addr} {vs : List Value} {nn : Nat} {news : List (Addr × Obj)} {Q : Value → Shared → Prop} (F : Fr h₀ L s.heap m) (N : News h₀ L s.heap news) (hm : (l, listOf vs.toArray nn) ∈ news)
    (h : ∀ e it oe oi h', Fr h₀ L h' m → News h₀ L h' ((e, oe) :: (it, oi) :: news) → EnSt e it l vs 0 h' → e ≠ it → (∀ p ∈ news, p.1 ≠ e ∧ p.1 ≠ it) → Q (.ref e) { s with heap := h' }) :
    wpAny (model prog w) A (call (.type "enumerate") [.ref l]) Q E s := by
  have hl : s.heap.IsList l vs.toArray := ⟨_, (N _ hm).1, rfl, _, rfl⟩
  refine call_enumerate_list hl fun h' he hi hsz hk => ?_
  obtain ⟨oi, hoi, r⟩ := id hi
  obtain ⟨oe, hoe⟩ : ∃ o, h'.get? (s.heap.objs.size + 1) = some o := ⟨_, he⟩
  have new0 : ∀ a, s.heap.objs.size ≤ a → h₀.get? a = none := fun a ha => by
    cases q : h₀.get? a with
    | none => rfl
    | some o => exact absurd (Heap.lt_size (F.keep _ _ q)) (Nat.not_lt.mpr ha)
  have hLlt : L < s.heap.objs.size := F.ns.lt
  refine h (s.heap.objs.size + 1) s.heap.objs.size oe oi h' (F.keeps hk) (fun p hp => ?_) ⟨⟨_, he⟩, hi, hl.at fun o x => hk _ _ x⟩ (Nat.succ_ne_self _) fun p hp => ?_
  · simp only [List.mem_cons] at hp
    rcases hp with rfl | rfl | hp
    · exact ⟨hoe, Nat.ne_of_gt (Nat.lt_succ_of_lt hLlt), new0 _ (Nat.le_succ _)⟩
    · exact ⟨hoi, Nat.ne_of_gt hLlt, new0 _ (Nat.le_refl _)⟩
    · exact ⟨hk _ _ (N p hp).1, (N p hp).2⟩
  · have := Heap.lt_size (N p hp).1
    exact ⟨Nat.ne_of_lt (Nat.lt_succ_of_lt this), Nat.ne_of_lt this⟩
/-- a comprehension over an enumeration of ints -/
theorem comp_en {x y : PySem.Str} {px py tp pos : Pos} {k : Nat} {iter elt : Expr} {scope : Scope} {cl : List (PySem.Str × Addr)} {Q : Value → Shared → Prop} (f : Int → Int → Int) (_F₀ : Fr h₀ L s.heap m) (hh : A.handled = none) (hxy : x ≠ y)
    (hclos : closureFor scope env = pure cl) (hcell : ∀ y ∈ scope.names, y.2 ≠ .cell) (hkind : scope.kind = .function)
    (hnames : ∀ y ∈ scope.names, y.2 = .local → scope.names.lookup y.1 = some .local) (hx : scope.names.lookup x = some .local) (hy : scope.names.lookup y = some .local)
    (hs0 : ∀ x, foldedSetIterable iter env x = pure x)
    (h : wpAny (model prog w) A (eval iter env) (EnSrc prog w A env elt x y scope cl h₀ L m f Q) E s) :
    wpAny (model prog w) A (eval (.ListComp elt [⟨.Tuple [.Name x px, .Name y py] k tp, iter, [], 0⟩] scope pos) env) Q E s := by
  rw [eval_ListComp]
  refine wpAny_comprehension_free (use := none) rfl hs0 hclos hkind hnames (wpAny_mono h (fun xv s₁ h₁ => ?_) fun _ _ e => e)
  obtain ⟨e, it, l, vs, ps, nn, oe, oi, news, rfl, F, N, st, hei, hle, hli, off, hl, hvs, hz, helt, fin⟩ := h₁
  obtain ⟨old, he⟩ := st.1
  refine wpAny_pyIter_enum he ?_
  refine wpAny_newObj_type (wpAny_newFunctionEnv hcell (by intro y hy; simp at hy) (fun h₁ hns₁ hsb₁ => ?_) hkind)
  dsimp only at hns₁ hsb₁ ⊢
  have F3 : Fr h₀ L (s₁.heap.push (LCg.lst [])) m := F.push _
  have N3 : News h₀ L (s₁.heap.push (LCg.lst [])) ((s₁.heap.objs.size, LCg.lst []) :: (e, oe) :: (it, oi) :: news) := News.push F N _
  have off3 : ∀ p ∈ (e, oe) :: (it, oi) :: news, p.1 ≠ s₁.heap.objs.size := fun p hp => Nat.ne_of_lt (Heap.lt_size (N p hp).1)
  have up0 : ∀ b o, s₁.heap.get? b = some o → (s₁.heap.push (LCg.lst [])).get? b = some o := fun b o x => Heap.get?_push_of_some _ x
  have hH2 : s₁.heap.push { cls := .type "list", dict := none, data := .seq ([] : List Value).toArray } = s₁.heap.push (LCg.lst []) := rfl
  rw [hH2] at hns₁ hsb₁ ⊢
  generalize s₁.heap.objs.size = D at N3 off3 ⊢
  generalize s₁.heap.push (LCg.lst []) = H2 at F3 N3 hns₁ hsb₁ up0 ⊢
  have lt3 : ∀ p ∈ (D, LCg.lst []) :: (e, oe) :: (it, oi) :: news, p.1 < H2.objs.size := fun p hp => Heap.lt_size (N3 p hp).1
  have up : ∀ b o, H2.get? b = some o → h₁.get? b = some o := fun b o e => hsb₁.extBut b o (Nat.ne_of_lt (Heap.lt_size e)) (Heap.get?_push_of_some _ e)
  obtain ⟨oC, hoC, hNs⟩ := LCg.ns_obj hns₁
  have F4 : Fr h₀ L h₁ m := F3.keeps up
  have hCL : H2.objs.size ≠ L := Ne.symm (Nat.ne_of_lt F3.ns.lt)
  have hC0 : h₀.get? H2.objs.size = none := next_is_new F3
  generalize H2.objs.size = C at *
  have cs0 : CS h₀ L m s₁ C D [] (fun _ => none) ((e, oe) :: (it, oi) :: news) { s₁ with heap := h₁, toks := s₁.toks + ([] : List (PySem.Str × Value)).length } := by
    refine ⟨h₁, _, oC, rfl, F4, fun p hp => ?_, hNs, Ne.symm (Nat.ne_of_lt (lt3 (D, LCg.lst []) (by simp))), fun p hp => ⟨Nat.ne_of_lt (lt3 p (.tail _ hp)), off3 p hp⟩⟩
    rcases List.mem_cons.mp hp with rfl | hp
    · exact ⟨hoC, hCL, hC0⟩
    · exact ⟨up _ _ (N3 p hp).1, (N3 p hp).2⟩
  have st1 : EnSt e it l vs 0 h₁ := ⟨⟨old, up _ _ (up0 _ _ he)⟩, st.2.1.at fun o x => up _ _ (up0 _ _ x), st.2.2.at fun o x => up _ _ (up0 _ _ x)⟩
  have kx : ∀ {q : PySem.Str}, scope.names.lookup q = some .local → (compEnvC scope cl C env).kindOf q = some .local := fun hq => lookup_relabel_local hq
  have hpp : ((compEnvC scope cl C env).scope.kind == .class || ((compEnvC scope cl C env).scope.kind == .module && (compEnvC scope cl C env).locals != (compEnvC scope cl C env).globals)) = false := by simp [compEnvC, relabel, hkind]
  have key := en_loop (prog := prog) (w := w) (A := A) (px := px) (py := py) (tp := tp) (pos := pos) (k := k) (iter := iter) (scope := scope) (env := compEnvC scope cl C env) f hh rfl (kx hx) (kx hy) hpp hxy hei hle hli off hl hvs hz (fun i b m₂ ys oe oi s' E' => helt i b s₁ C D m₂ ys oe oi s' E') ⟨_, oe, oi, cs0, st1⟩
  refine codeAny_compStart_list (codeAny_mono key ?_) (wpAny_pyIter_enum st1.1.choose_spec (codeAny_mono key ?_))
  all_goals
    intro r s'' hr
    obtain ⟨⟨g, rfl⟩, ys, m₂, hys, h', tk, oC', rfl, F', N', hNs', hCD, hoff⟩ := hr
    exact ⟨m₂, hNs'.ns (N' _ (.head _)).1, fun h'' hs'' => fin D h'' tk ys hys (F'.change hs'' hCL hC0) (PySem.W.kas_news N'.tail' hs'' (head_off hCD fun p hp => (hoff p hp).1)) fun p hp => (hoff p hp).2⟩
end
end Mine
namespace Mine
def intOf : Value → Int
  | .int n _ => n
  | _ => 0
def pickL (vs : List Value) (lo hi st : Option Int) : List Value := (slicePick vs.toArray lo hi st).toList
theorem ints_of_all : ∀ {xs : List Value}, (∀ v ∈ xs, ∃ n t, v = .int n t) → IntsAre xs (xs.map intOf)
  | [], _ => .nil
  | x :: xs, h => by
    obtain ⟨n, t, rfl⟩ := h x (.head _)
    exact .cons n t (ints_of_all fun v hv => h v (.tail _ hv))
theorem pick_ints {vs : List Value} {ns : List Int} (h : IntsAre vs ns) (lo hi st : Option Int) : IntsAre (pickL vs lo hi st) ((pickL vs lo hi st).map intOf) := by
  refine ints_of_all fun v hv => IntsAre.all h v ?_
  unfold pickL slicePick at hv
  rw [List.mem_filterMap] at hv
  obtain ⟨k, _, hk⟩ := hv
  have := Array.mem_of_getElem? hk
  simpa using this
section
variable {prog : Program} {w : World} {A : Around} {E : Value → Shared → Prop} {s : Shared} {h₀ : Heap} {L l : Addr} {m : PySem.Str → Option Value} {news : List (Addr × Obj)} {vs : List Value} {ns : List Int}
theorem pick3 {value slice : PySem.Expr} {vl vu vk : Value} {lo hi st : Option Int} {ops : List Value} {Q : Value → Shared → Prop} (F : Fr h₀ L s.heap m) (N : News h₀ L s.heap news) (hl : h₀.IsList l vs.toArray) (hi' : IntsAre vs ns) (pl : IsPart vl lo) (pu : IsPart vu hi) (pk : IsPart vk st) (h0 : st ≠ some 0) (hz : ns.length ≤ 1000)
    (h : ∀ D h', Fr h₀ L h' m → News h₀ L h' ((D, listOf (pickL vs lo hi st).toArray 0) :: news) → (∀ p ∈ news, p.1 < D) → IntsAre (pickL vs lo hi st) ((pickL vs lo hi st).map intOf) → Q (.ref D) { s with heap := h' })
    (hs : subscripted slice false (.ref l) (.ref s.heap.objs.size) = operate ops (getItem (.ref l) (.ref s.heap.objs.size))) (ht : ∀ r, letTemporaryGo value (.ref l) r = pure ()) :
    wpAny (model prog w) A (subscriptTail value slice (.ref l) (.ref s.heap.objs.size)) Q E { s with heap := s.heap.push { cls := .type "slice", data := .fields #[vl, vu, vk] } } :=
  kmk_slice3_lit F N (hl.at fun o e => F.keep _ _ e) pl pu pk h0 rfl (fun D h' F' N' l1 => h D h' F' N' l1 (pick_ints hi' _ _ _)) hs ht (by rw [List.size_toArray, hi'.length, sizeLine_eq]; omega)
end
theorem ai3 {a b c : Int} {t u v : Tok} : AreInts [.int a t, .int b u, .int c v] [a, b, c] := ⟨[(a, t), (b, u), (c, v)], rfl, rfl⟩
/-- the script's part from j on, by steps -/
def sumFrom (vs : List Value) (st : Int) (j : Int) : Int := ((pickL vs (some j) none (some st)).map intOf).sum
end Mine
end SCompE
section Walk
open PySem PySem.W PyProof.Rows PySem.Calls
set_option maxRecDepth 100000
set_option maxHeartbeats 8000000
local macro_rules | `(tactic| k_room) => `(tactic| ktr_room)
local macro_rules | `(tactic| k_units) => `(tactic| ktr_units)
local macro_rules | `(tactic| ktr_room) => `(tactic| first | (refine' Mine.roomA (by with_reducible assumption) ?e9; (try simp only [depth_under_make, depth_under_kw, depth_in1, depth_deeper, depth_caller]); (try dsimp only [cT]); (try simp only [Nat.add_assoc, Nat.reduceAdd]); exact Nat.add_le_add_left (by decide) _) | ((try simp only [depth_under_make, depth_under_kw, depth_in1, depth_deeper, depth_caller] at *); (try dsimp only [cT] at *); omega))
local macro_rules | `(tactic| ktr_units) => `(tactic| first | (refine' Mine.roomA (by with_reducible assumption) ?e9; (try simp only [units_in1, units_deeper, Around.mark_units, units_caller]); (try dsimp only [cT]); (try simp only [Nat.add_assoc, Nat.reduceAdd]); exact Nat.add_le_add_left (by decide) _) | (have hcL9 := cLine_is; (try simp only [units_in1, units_deeper, Around.mark_units, units_caller] at *); (try dsimp only [cT] at *); omega))
local macro_rules | `(tactic| walk_at "execs cons") => `(tactic| (k_here; with_reducible refine Mine.gentoks1 ?_; intro _ _))
local macro_rules | `(tactic| walk_at "execs nil") => `(tactic| (k_here; with_reducible refine Mine.gentoks1 ?_; intro _ _))
local macro_rules | `(tactic| ktr_enter) => `(tactic| first
  | (refine' code_def (by k_asm) (by k_asm) (by k_asm) (by k_asm) (by k_asm) (by exact rfl) (by first | assumption | exact rfl) (by first | assumption | exact rfl) (by k_is) (by k_is) (by ktr_room) (by exact BindsTo.of_eq rfl) (by exact locs rfl) ?_ (by exact rfl) (by exact rfl) (by exact rfl) (by decide); k_whole; intro _ _ _ _ _ _ _ _ _; (try dsimp only); (try k_fold))
  | (refine' code_defC (by k_asm) (by k_asm) (by k_asm) (by k_asm) (by k_asm) (by exact rfl) (by first | assumption | exact rfl) (by first | assumption | exact rfl) (by k_is) (by k_is) (by ktr_room) (by exact BindsTo.of_eq rfl) (by exact rfl) (by decide +kernel) ?_ (by exact rfl) (by exact rfl) (by exact rfl); k_whole; intro _ _ _ _ _ _ _ N' Y' _ _ _ l1; (try k_lt l1); k_cells Y'; (try simp only [List.cons_append, List.nil_append] at N'); (try dsimp only); (try k_fold)))
local macro_rules | `(tactic| k_lt $h:ident) => `(tactic| (replace $h := allLt_of $h; (try simp only [AllLt, and_true] at $h:ident); (repeat (have hlt9 := And.left $h; replace $h := And.right $h))))
local macro_rules | `(tactic| k_all) => `(tactic| first | exact PySem.W.tbn_neAll (by with_reducible assumption) | exact Mine.allLt_ne1 (by with_reducible assumption) | exact Mine.allLt_ne2 (by with_reducible assumption))
local macro_rules | `(tactic| k_allIn) => `(tactic| (intro _ _; k_ownIn))
local macro_rules | `(tactic| k_ownIn) => `(tactic| first | with_reducible assumption | (refine List.Mem.tail _ ?_; k_ownIn))
local macro_rules | `(tactic| k_ne) => `(tactic| first | with_reducible assumption | (refine neN ?_; (try dsimp only); first | with_reducible assumption | exact Nat.ne_of_lt (by with_reducible assumption) | exact Nat.ne_of_gt (by with_reducible assumption) | omega))
local macro_rules | `(tactic| k_all) => `(tactic| first | with_reducible assumption | exact Nat.le_add_left 1 _ | (dsimp only; omega))
section SNms1
namespace Mine
theorem fresh1 : True := by
  w_top off
  trivial
end Mine
open PySem PySem.W PyProof.Rows PySem.Calls
set_option Elab.async false
set_option maxRecDepth 100000
set_option maxHeartbeats 8000000
set_option pp.maxSteps 400
set_option autoImplicit false
namespace Mine
/-- the names that an escape knows -/
def nmTab (h : Int) : List (PySem.Str × PySem.Str) :=
  if h = 0 then [(PySem.Str.ofString "&", PySem.Str.ofString "amp;"), (PySem.Str.ofString "<", PySem.Str.ofString "lt;"), (PySem.Str.ofString ">", PySem.Str.ofString "gt;")] else
  if h = 1 then [(PySem.Str.ofString "&", PySem.Str.ofString "amp;"), (PySem.Str.ofString "<", PySem.Str.ofString "lt;"), (PySem.Str.ofString ">", PySem.Str.ofString "gt;"), (PySem.Str.ofString "\"", PySem.Str.ofString "quot;"), (PySem.Str.ofString "\t", PySem.Str.ofString "#09;")] else
  if h = 2 then [(PySem.Str.ofString "&", PySem.Str.ofString "amp;"), (PySem.Str.ofString ">", PySem.Str.ofString "gt;"), (PySem.Str.ofString "\"", PySem.Str.ofString "quot;")] else
  if h = 3 then [(PySem.Str.ofString "&", PySem.Str.ofString "amp;"), (PySem.Str.ofString "<", PySem.Str.ofString "lt;"), (PySem.Str.ofString ">", PySem.Str.ofString "gt;")] else
  [(PySem.Str.ofString "&", PySem.Str.ofString "amp;"), (PySem.Str.ofString "<", PySem.Str.ofString "lt;"), (PySem.Str.ofString "\"", PySem.Str.ofString "quot;"), (PySem.Str.ofString "\t", PySem.Str.ofString "#x9;")]
local macro_rules | `(tactic| walk_at "eval Dict") => `(tactic| (k_here; k_dflt (refine' dict_lit (by k_asm) (by k_asm) (by exact Top.nolimit (by k_asm)) (by first | exact .cons (.cons (.cons .nil)) | exact .cons (.cons (.cons (.cons .nil))) | exact .cons (.cons (.cons (.cons (.cons .nil)))) | exact .nil) (by exact List.cons_ne_nil _ _) (by exact Nat.le_of_ble_eq_true rfl) (by decide +kernel) ?_; k_whole; intro _ _ _ _ _ _ _ l1 _ _; (try k_lt l1))))
theorem ct_names (w : World) (hand : Int) (t : Tok) (h0 : 0 ≤ hand) (h5 : hand < 5) (own : List (Addr × Obj)) :
    Ct w 20 200 146 [.int hand t] own True (fun v n' => ∃ D o, v = .ref D ∧ (D == sysModules) = false ∧ NamesOf PySem.Challenge.rw_rw0051_01.row.prog w o (nmTab hand) ∧ n' = (D, o) :: own) := by
  unfold Ct
  k_fill
  intro p loose mean mg mb dp un gd env outer A₀ base h₀ L m s Q E B F X N T hf hk hdp hun htk hx hret
  refine codeAny_with_toks htk ?_
  k_dflt ktr_enter
  with_reducible refine gentoks2 ?hX ?_
  case hX => with_reducible exact Nat.le_trans htk (Nat.le_add_right _ _)
  intro tk htk1
  k_steps
  have hc : hand = 0 ∨ hand = 1 ∨ hand = 2 ∨ hand = 3 ∨ hand = 4 := by omega
  rcases hc with rfl | rfl | rfl | rfl | rfl
  all_goals
    refine menu_item (by k_asm) (.head _) (by decide) (by decide) rfl ?_
    k_steps
    exact hret _ _ _ _ (by k_asm) (cb_drop (show News _ _ _ (_ :: _ :: _ :: _ :: _ :: _ :: own) by k_asm) fun p9 hp9 => by rcases List.mem_cons.mp hp9 with rfl | hp9; (· k_mem); (· k_ownIn)) (by assumption) ⟨_, _, rfl, by assumption, by assumption, rfl⟩
end Mine
end SNms1
section SQuote1
namespace Mine
theorem fresh2 : True := by
  w_top off
  trivial
end Mine
open PySem PySem.W PyProof.Rows PySem.Calls
set_option Elab.async false
set_option maxRecDepth 100000
set_option maxHeartbeats 8000000
set_option pp.maxSteps 400
set_option autoImplicit false
namespace Mine
local macro_rules | `(tactic| walk_at "getMethod ref") => `(tactic| (k_here; k_dflt (refine' getMethod_pat (by refine' isPat_K (by k_in) (by k_is) (by k_is) (by rfl)) ?_; k_whole)))
local macro_rules | `(tactic| walk_at "call builtin:re.Pattern.sub") => `(tactic| (refine Mine.Hold.out ?_))
theorem ct_quote (w : World) (l : List Nat) (t : Tok) (news) : Ct w 20 200 90 [.str (S l) t] news (l.length ≤ 1000000 ∧ 10 ∉ l ∧ 13 ∉ l) (fun r n' => n' = news ∧ ∃ t', r = .str (S (qd l)) t') := by
  unfold Ct
  k_fill
  intro p loose mean mg mb dp un gd env outer A₀ base h₀ L m s Q E B F X N T hf hk hdp hun htk hx hret
  obtain ⟨hl, h10, h13⟩ := hx
  refine codeAny_with_toks htk ?_
  k_dflt ktr_enter
  refine gentoks2 (Nat.le_trans htk (Nat.le_add_right _ _)) ?_
  intro tk htk1
  k_steps
  unfold Hold
  k_dflt (first | (refine' sub_B (by refine' isPat_K (by k_in) (by k_is) (by k_is) (by decide +kernel)) (by assumption) (by assumption) (by assumption) (by decide +kernel) (by decide +kernel) (by k_asm) (by k_asm) ?_) | (refine' sub_A (by refine' isPat_K (by k_in) (by k_is) (by k_is) (by decide +kernel)) (by assumption) (by assumption) (by decide +kernel) (by k_asm) (by k_asm) ?_)); intro _ _ _ _ _; k_sweep
  k_steps
  unfold Hold
  k_dflt (first | (refine' sub_B (by refine' isPat_K (by k_in) (by k_is) (by k_is) (by decide +kernel)) (by assumption) (by assumption) (by assumption) (by decide +kernel) (by decide +kernel) (by k_asm) (by k_asm) ?_) | (refine' sub_A (by refine' isPat_K (by k_in) (by k_is) (by k_is) (by decide +kernel)) (by assumption) (by assumption) (by decide +kernel) (by k_asm) (by k_asm) ?_)); intro _ _ _ _ _; k_sweep
  k_steps
  all_goals exact hret _ _ _ _ (by k_asm) (by k_asm) (by assumption) ⟨rfl, _, rfl⟩
end Mine
end SQuote1
section SEsc1
namespace Mine
theorem fresh3 : True := by
  w_top off
  trivial
end Mine
open PySem PySem.W PyProof.Rows PySem.Calls
set_option Elab.async false
set_option maxRecDepth 100000
set_option maxHeartbeats 8000000
set_option pp.maxSteps 400
set_option autoImplicit false
namespace Mine
def esc0 : List (Nat × List Nat) := [(38, [38,97,109,112,59]), (60, [38,108,116,59]), (62, [38,103,116,59])]
def esc1 : List (Nat × List Nat) := [(38, [38,97,109,112,59]), (60, [38,108,116,59]), (62, [38,103,116,59]), (34, [38,113,117,111,116,59]), (13, [38,35,49,51,59]), (10, [38,35,49,48,59]), (9, [38,35,48,57,59])]
def esc2 : List (Nat × List Nat) := [(38, [38,97,109,112,59]), (62, [38,103,116,59]), (34, [38,113,117,111,116,59])]
def esc3 : List (Nat × List Nat) := [(38, [38,97,109,112,59]), (60, [38,108,116,59]), (62, [38,103,116,59]), (13, [38,35,120,68,59])]
def esc4 : List (Nat × List Nat) := [(38, [38,97,109,112,59]), (60, [38,108,116,59]), (34, [38,113,117,111,116,59]), (9, [38,35,120,57,59]), (10, [38,35,120,65,59]), (13, [38,35,120,68,59])]
local macro_rules | `(tactic| walk_at "exec If") => `(tactic| (k_here; k_dflt ((refine' esc_ifN (by k_asm) (by k_asm) ?km (by first | assumption | (dsimp only; omega)) ?hl ?hrs ?hr ?hcr ?ec ?er ?_ (fun _ _ h => MethodCall_ h) (by rfl) (by rfl) (by rfl) (by decide)); (case km => exact rfl); (case ec => first | exact of_amp | exact of_lt | exact of_gt | exact of_quot | exact of_cr | exact of_lf | exact of_tab); (case er => first | exact of_e0 | exact of_e1 | exact of_e2 | exact of_e3 | exact of_e4 | exact of_e5 | exact of_e6 | exact of_e7 | exact of_e8 | exact of_e9); (case hrs => decide +kernel); (case hr => decide); (case hcr => decide +kernel); (case hl => omega); k_whole; (intro _ _ _ F' _ _); (try dsimp only [List.nil_append, List.cons_append] at F'); k_sweep)))
theorem ct_esc0 (w : World) (l : List Nat) (t : Tok) (news) : Ct w 20 200 104 [.str (S (repN [] l)) t] news (l.length ≤ 100000) (fun r n' => n' = news ∧ ∃ t', r = .str (S (repN esc0 l)) t') := by
  unfold Ct
  k_fill
  intro p loose mean mg mb dp un gd env outer A₀ base h₀ L m s Q E B F X N T hf hk hdp hun htk hx hret
  k_dflt ktr_enter
  refine gentoks2 (Nat.le_trans htk (Nat.le_add_right _ _)) ?_
  intro tk htk1
  k_steps
  all_goals exact hret _ _ _ _ (by k_asm) (by k_asm) (by assumption) ⟨rfl, _, rfl⟩
theorem ct_esc1 (w : World) (l : List Nat) (t : Tok) (news) : Ct w 20 200 111 [.str (S (repN [] l)) t] news (l.length ≤ 100000) (fun r n' => n' = news ∧ ∃ t', r = .str (S (repN esc1 l)) t') := by
  unfold Ct
  k_fill
  intro p loose mean mg mb dp un gd env outer A₀ base h₀ L m s Q E B F X N T hf hk hdp hun htk hx hret
  k_dflt ktr_enter
  refine gentoks2 (Nat.le_trans htk (Nat.le_add_right _ _)) ?_
  intro tk htk1
  k_steps
  all_goals exact hret _ _ _ _ (by k_asm) (by k_asm) (by assumption) ⟨rfl, _, rfl⟩
theorem ct_esc2 (w : World) (l : List Nat) (t : Tok) (news) : Ct w 20 200 118 [.str (S (repN [] l)) t] news (l.length ≤ 100000) (fun r n' => n' = news ∧ ∃ t', r = .str (S (repN esc2 l)) t') := by
  unfold Ct
  k_fill
  intro p loose mean mg mb dp un gd env outer A₀ base h₀ L m s Q E B F X N T hf hk hdp hun htk hx hret
  k_dflt ktr_enter
  refine gentoks2 (Nat.le_trans htk (Nat.le_add_right _ _)) ?_
  intro tk htk1
  k_steps
  all_goals exact hret _ _ _ _ (by k_asm) (by k_asm) (by assumption) ⟨rfl, _, rfl⟩
theorem ct_esc3 (w : World) (l : List Nat) (t : Tok) (news) : Ct w 20 200 125 [.str (S (repN [] l)) t] news (l.length ≤ 100000) (fun r n' => n' = news ∧ ∃ t', r = .str (S (repN esc3 l)) t') := by
  unfold Ct
  k_fill
  intro p loose mean mg mb dp un gd env outer A₀ base h₀ L m s Q E B F X N T hf hk hdp hun htk hx hret
  k_dflt ktr_enter
  refine gentoks2 (Nat.le_trans htk (Nat.le_add_right _ _)) ?_
  intro tk htk1
  k_steps
  all_goals exact hret _ _ _ _ (by k_asm) (by k_asm) (by assumption) ⟨rfl, _, rfl⟩
theorem ct_esc4 (w : World) (l : List Nat) (t : Tok) (news) : Ct w 20 200 132 [.str (S (repN [] l)) t] news (l.length ≤ 100000) (fun r n' => n' = news ∧ ∃ t', r = .str (S (repN esc4 l)) t') := by
  unfold Ct
  k_fill
  intro p loose mean mg mb dp un gd env outer A₀ base h₀ L m s Q E B F X N T hf hk hdp hun htk hx hret
  k_dflt ktr_enter
  refine gentoks2 (Nat.le_trans htk (Nat.le_add_right _ _)) ?_
  intro tk htk1
  k_steps
  all_goals exact hret _ _ _ _ (by k_asm) (by k_asm) (by assumption) ⟨rfl, _, rfl⟩
end Mine
end SEsc1
section SPush1
namespace Mine
theorem fresh4 : True := by
  w_top off
  trivial
end Mine
open PySem PySem.W PyProof.Rows PySem.Calls
set_option Elab.async false
set_option maxRecDepth 100000
set_option maxHeartbeats 8000000
set_option pp.maxSteps 400
set_option autoImplicit false
namespace Mine
structure DT where
  (h1 h2 h3 h4 h5 : Int)
  (t1 t2 t3 t4 t5 tv : Tok)
/-- a lexer's dict -/
abbrev lexDict (d : DT) (line : Int) (u : Tok) (tape : Value) (pb : Addr) : Obj :=
  dictOf [⟨d.h1, .str (PySem.Str.ofString "lineno") d.t1, .int line u⟩, ⟨d.h2, .str (PySem.Str.ofString "instream") d.t2, tape⟩, ⟨d.h3, .str (PySem.Str.ofString "whitespace") d.t3, .str (PySem.Str.ofString "\n\t\r ") d.tv⟩, ⟨d.h4, .str (PySem.Str.ofString "pushback") d.t4, .ref pb⟩] 4
abbrev tapeDict (d : DT) (v1 v2 v3 v4 : Value) (lam : Addr) : Obj :=
  dictOf [⟨d.h1, .str (PySem.Str.ofString "lineno") d.t1, v1⟩, ⟨d.h2, .str (PySem.Str.ofString "instream") d.t2, v2⟩, ⟨d.h3, .str (PySem.Str.ofString "whitespace") d.t3, v3⟩, ⟨d.h4, .str (PySem.Str.ofString "pushback") d.t4, v4⟩, ⟨d.h5, .str (PySem.Str.ofString "read") d.t5, .ref lam⟩] 5
/-- what the reading lambda does when it is called -/
def LamSpec (w : World) (lam cell : Addr) (LO : Obj) (cc : Addr) (CO : Obj) : Prop :=
  ∀ (sg : Addr) (SO : Obj) (nn : Nat) (t : Tok) (own : List (Addr × Obj)), SO.data = .cell (some (.ref sg)) → OwnOff own [sg] → @Ne Nat lam sg → @Ne Nat cc sg → @Ne Nat cell sg →
    (Ct w 10 100 lam [.int 1 t] ((lam, LO) :: (cc, CO) :: (cell, SO) :: (sg, listOf #[] nn) :: own) True
      (fun r n' => (∃ t', r = .str (S []) t') ∧ n' = (lam, LO) :: (cc, CO) :: (cell, SO) :: (sg, listOf #[] nn) :: own)) ∧
    (∀ (ys : List (PySem.Str × Tok)) (y : PySem.Str) (ty : Tok), ys.length ≤ 100000 → Ct w 10 100 lam [.int 1 t] ((lam, LO) :: (cc, CO) :: (cell, SO) :: (sg, listOf (strValues (ys ++ [(y, ty)])).toArray nn) :: own) True
      (fun r n' => r = .str y ty ∧ n' = (lam, LO) :: (cc, CO) :: (cell, SO) :: (sg, listOf (strValues ys).toArray (nn + 1)) :: own))
structure LexA where
  (x dx pb tape dt lam cc cell sg : Addr)
  (d e : DT)
  (v1 v2 v3 v4 : Value)
  (LO CO SO : Obj)
abbrev LexA.adrs (a : LexA) : List Addr := [a.x, a.dx, a.pb, a.tape, a.dt, a.lam, a.cc, a.cell, a.sg]
/-- a lexer and its tape, on the ledger: its line, the line of waiting texts, the signs that are not read (the next one last) -/
abbrev lexLed (a : LexA) (line : Int) (u : Tok) (qs : List (PySem.Str × Tok)) (nq : Nat) (ys : List (PySem.Str × Tok)) (ny : Nat) : List (Addr × Obj) :=
  [(a.x, instObj 69 a.dx), (a.dx, lexDict a.d line u (.ref a.tape) a.pb), (a.pb, listOf (strValues qs).toArray nq), (a.tape, instObj 69 a.dt), (a.dt, tapeDict a.e a.v1 a.v2 a.v3 a.v4 a.lam), (a.lam, a.LO), (a.cc, a.CO), (a.cell, a.SO), (a.sg, listOf (strValues ys).toArray ny)]
structure LexOk (w : World) (a : LexA) : Prop where
  lam : LamSpec w a.lam a.cell a.LO a.cc a.CO
  so : a.SO.data = .cell (some (.ref a.sg))
  nd : a.adrs.Nodup
  fn : ∃ oc od fd sl, a.LO = ⟨oc, od, .func fd, sl⟩
theorem LexOk.fnAt {w : World} {a : LexA} {h₀ h : Heap} {L : Addr} {news : List (Addr × Obj)} (ok : LexOk w a) (N : News h₀ L h news) (hm : (a.lam, a.LO) ∈ news) : FnAt a.lam h := by
  obtain ⟨oc, od, fd, sl, e⟩ := ok.fn
  exact ⟨oc, od, fd, sl, e ▸ (N _ hm).1⟩
end Mine
namespace Mine
theorem nd9 {x dx pb tape dt lam cc cell sg : Nat} (h : ([x, dx, pb, tape, dt, lam, cc, cell, sg] : List Nat).Nodup) :
    (x ≠ dx ∧ pb ≠ dx ∧ tape ≠ dx ∧ dt ≠ dx ∧ lam ≠ dx ∧ cc ≠ dx ∧ cell ≠ dx ∧ sg ≠ dx) ∧ (x ≠ pb ∧ dx ≠ pb ∧ tape ≠ pb ∧ dt ≠ pb ∧ lam ≠ pb ∧ cc ≠ pb ∧ cell ≠ pb ∧ sg ≠ pb) ∧ (x ≠ sg ∧ dx ≠ sg ∧ pb ≠ sg ∧ tape ≠ sg ∧ dt ≠ sg ∧ lam ≠ sg ∧ cc ≠ sg ∧ cell ≠ sg) := by
  obtain ⟨h0, h⟩ := List.pairwise_cons.mp h
  obtain ⟨h1, h⟩ := List.pairwise_cons.mp h
  obtain ⟨h2, h⟩ := List.pairwise_cons.mp h
  obtain ⟨h3, h⟩ := List.pairwise_cons.mp h
  obtain ⟨h4, h⟩ := List.pairwise_cons.mp h
  obtain ⟨h5, h⟩ := List.pairwise_cons.mp h
  obtain ⟨h6, h⟩ := List.pairwise_cons.mp h
  obtain ⟨h7, h⟩ := List.pairwise_cons.mp h
  exact ⟨⟨h0 _ (.head _), Ne.symm (h1 _ (.head _)), Ne.symm (h1 _ (.tail _ (.head _))), Ne.symm (h1 _ (.tail _ (.tail _ (.head _)))), Ne.symm (h1 _ (.tail _ (.tail _ (.tail _ (.head _))))), Ne.symm (h1 _ (.tail _ (.tail _ (.tail _ (.tail _ (.head _)))))), Ne.symm (h1 _ (.tail _ (.tail _ (.tail _ (.tail _ (.tail _ (.head _))))))), Ne.symm (h1 _ (.tail _ (.tail _ (.tail _ (.tail _ (.tail _ (.tail _ (.head _))))))))⟩, ⟨h0 _ (.tail _ (.head _)), h1 _ (.head _), Ne.symm (h2 _ (.head _)), Ne.symm (h2 _ (.tail _ (.head _))), Ne.symm (h2 _ (.tail _ (.tail _ (.head _)))), Ne.symm (h2 _ (.tail _ (.tail _ (.tail _ (.head _))))), Ne.symm (h2 _ (.tail _ (.tail _ (.tail _ (.tail _ (.head _)))))), Ne.symm (h2 _ (.tail _ (.tail _ (.tail _ (.tail _ (.tail _ (.head _)))))))⟩, ⟨h0 _ (.tail _ (.tail _ (.tail _ (.tail _ (.tail _ (.tail _ (.tail _ (.head _)))))))), h1 _ (.tail _ (.tail _ (.tail _ (.tail _ (.tail _ (.tail _ (.head _))))))), h2 _ (.tail _ (.tail _ (.tail _ (.tail _ (.tail _ (.head _)))))), h3 _ (.tail _ (.tail _ (.tail _ (.tail _ (.head _))))), h4 _ (.tail _ (.tail _ (.tail _ (.head _)))), h5 _ (.tail _ (.tail _ (.head _))), h6 _ (.tail _ (.head _)), h7 _ (.head _)⟩⟩
theorem lexOff {own : List (Addr × Obj)} {a : LexA} (h : OwnOff own a.adrs) {bs : List Addr} (hb : ∀ b ∈ bs, b ∈ a.adrs) : OwnOff own bs := off_sub h hb
/-- the reading lambda over the whole lexer -/
theorem lam_lex {w : World} {a : LexA} (ok : LexOk w a) (line : Int) (u : Tok) (qs : List (PySem.Str × Tok)) (nq ny : Nat) (t : Tok) (own : List (Addr × Obj)) (hoff : OwnOff own a.adrs) :
    (Ct w 10 100 a.lam [.int 1 t] (lexLed a line u qs nq [] ny ++ own) True (fun r n' => (∃ t', r = .str (S []) t') ∧ n' = lexLed a line u qs nq [] ny ++ own)) ∧
    (∀ (ys : List (PySem.Str × Tok)) (y : PySem.Str) (ty : Tok), ys.length ≤ 100000 → Ct w 10 100 a.lam [.int 1 t] (lexLed a line u qs nq (ys ++ [(y, ty)]) ny ++ own) True
      (fun r n' => r = .str y ty ∧ n' = lexLed a line u qs nq ys (ny + 1) ++ own)) := by
  obtain ⟨⟨_, _, _, _, _, _, _, hsd⟩, ⟨_, _, _, _, _, _, _, hsp⟩, h1, h2, h3, h4, h5, h6, h7, h8⟩ := nd9 ok.nd
  have off : OwnOff ((a.x, instObj 69 a.dx) :: (a.dx, lexDict a.d line u (.ref a.tape) a.pb) :: (a.pb, listOf (strValues qs).toArray nq) :: (a.tape, instObj 69 a.dt) :: (a.dt, tapeDict a.e a.v1 a.v2 a.v3 a.v4 a.lam) :: own) [a.sg] := by
    have one : ∀ {b : Addr}, @Ne Nat b a.sg → ∀ c ∈ [a.sg], b ≠ c := fun h c hc => by rw [List.mem_singleton.mp hc]; exact h
    exact off_cons (one h1) (off_cons (one h2) (off_cons (one h3) (off_cons (one h4) (off_cons (one h5) (lexOff hoff (by simp))))))
  have sp := ok.lam a.sg a.SO ny t _ ok.so off h6 h7 h8
  have mv : ∀ (ys : List (PySem.Str × Tok)) (n : Nat) (p : Addr × Obj), p ∈ ((a.lam, a.LO) :: (a.cc, a.CO) :: (a.cell, a.SO) :: (a.sg, listOf (strValues ys).toArray n) :: (a.x, instObj 69 a.dx) :: (a.dx, lexDict a.d line u (.ref a.tape) a.pb) :: (a.pb, listOf (strValues qs).toArray nq) :: (a.tape, instObj 69 a.dt) :: (a.dt, tapeDict a.e a.v1 a.v2 a.v3 a.v4 a.lam) :: own) ↔
      p ∈ lexLed a line u qs nq ys n ++ own := by
    intro ys n p
    dsimp only [lexLed, List.cons_append, List.nil_append]
    constructor
    all_goals
      intro hp
      iterate 9 (rcases List.mem_cons.mp hp with rfl | hp; · (repeat first | exact List.Mem.head _ | refine List.Mem.tail _ ?_))
      (repeat first | exact hp | refine List.Mem.tail _ ?_)
  refine ⟨sp.1.perm (fun p hp => (mv [] ny p).mp hp) fun r n hP => ⟨_, fun p hp => ?_, hP.1, rfl⟩, fun ys y ty hy => (sp.2 ys y ty hy).perm (fun p hp => (mv _ ny p).mp hp) fun r n hP => ⟨_, fun p hp => ?_, hP.1, rfl⟩⟩
  · rw [hP.2]; exact (mv [] ny p).mpr hp
  · rw [hP.2]; exact (mv ys (ny + 1) p).mpr hp
theorem nil10 (h : (S [] == PySem.Str.ofString "\n") = true) : False := by
  rw [of_lf] at h
  have := S_inj (beq_iff_eq.mp h)
  cases this
theorem eq10 {c : Nat} (h : (S [c] == PySem.Str.ofString "\n") = true) : c = 10 := by
  rw [of_lf] at h
  have := S_inj (beq_iff_eq.mp h)
  simpa using this
theorem ne10 {c : Nat} (h : (S [c] == PySem.Str.ofString "\n") = false) : ¬ c = 10 := fun e => by
  subst e
  rw [of_lf] at h
  simp at h
theorem ne10' {c : Nat} (h : ¬ (S [c] == PySem.Str.ofString "\n") = true) : ¬ c = 10 := ne10 (Bool.eq_false_iff.mpr h)
end Mine
namespace Mine
theorem ct_push (w : World) (v : Value) (x dx pb : Addr) (d : DT) (line : Int) (u : Tok) (tape : Value) (items : List Value) (nn : Nat) (own : List (Addr × Obj)) :
    Ct w 20 200 66 [.ref x, v] ((x, instObj 69 dx) :: (dx, lexDict d line u tape pb) :: (pb, listOf items.toArray nn) :: own) (items.length ≤ 100000 ∧ OwnOff own [x, dx, pb] ∧ @Ne Nat x dx ∧ @Ne Nat x pb ∧ @Ne Nat dx pb)
      (fun r n' => r = .none ∧ n' = (x, instObj 69 dx) :: (dx, lexDict d line u tape pb) :: (pb, listOf (items ++ [v]).toArray (nn + 1)) :: own) := by
  unfold Ct
  k_fill
  intro p loose mean mg mb dp un gd env outer A₀ base h₀ L m s Q E B F X N T hf hk hdp hun htk hx hret
  obtain ⟨hlen, hoff, n1, n2, n3⟩ := hx
  refine codeAny_with_toks htk ?_
  k_dflt ktr_enter
  refine gentoks2 (Nat.le_trans htk (Nat.le_add_right _ _)) ?_
  intro tk htk1
  k_steps
  all_goals exact hret _ _ _ _ (by k_asm) (by k_asm) (by assumption) ⟨rfl, by simp⟩
end Mine
end SPush1
section SRead1
namespace Mine
theorem fresh5 : True := by
  w_top off
  trivial
end Mine
open PySem PySem.W PyProof.Rows PySem.Calls
set_option Elab.async false
set_option maxRecDepth 100000
set_option maxHeartbeats 8000000
set_option pp.maxSteps 400
set_option autoImplicit false
namespace Mine
local macro_rules | `(tactic| walk_at "call ref") => `(tactic| (refine Mine.Hold.out ?_))
local macro_rules | `(tactic| walk_at "callWith ref") => `(tactic| (k_here; k_dflt (refine' callWith_F (by exact LexOk.fnAt (by assumption) (by k_asm) (by k_mem)) ?_; k_whole)))
local macro_rules | `(tactic| walk_at "And") => `(tactic| ((with_reducible show FnAt _ _ ∧ _); refine ⟨by (k_dflt exact LexOk.fnAt (by assumption) (by k_asm) (by k_mem)), ?_⟩; try dsimp only [List.nil_append, List.cons_append]))
theorem ct_read1 (w : World) (a : LexA) (ok : LexOk w a) (line : Int) (u : Tok) (qs : List (PySem.Str × Tok)) (nq ny : Nat) (own : List (Addr × Obj)) (hoff : OwnOff own a.adrs) (ys : List (PySem.Str × Tok)) (c : Nat) (ty : Tok) (hys : ys.length ≤ 100000) :
    Ct w 20 200 52 [.ref a.x] (lexLed a line u qs nq (ys ++ [(S [c], ty)]) ny ++ own) True
      (fun r n' => r = .str (S [c]) ty ∧ ∃ u', n' = lexLed a (if c = 10 then line + 1 else line) u' qs nq ys (ny + 1) ++ own) := by
  unfold Ct
  k_fill
  intro p loose mean mg mb dp un gd env outer A₀ base h₀ L m s Q E B F X N T hf hk hdp hun htk hx hret
  obtain ⟨⟨_, _, _, _, _, _, _, _⟩, ⟨_, _, _, _, _, _, _, _⟩, _, _, _, _, _, _, _, _⟩ := nd9 ok.nd
  dsimp only [lexLed, List.cons_append, List.nil_append] at N
  refine codeAny_with_toks htk ?_
  k_dflt ktr_enter
  refine gentoks2 (Nat.le_trans htk (Nat.le_add_right _ _)) ?_
  intro tk htk1
  k_steps
  unfold Hold
  k_dflt (refine' ct_useA ((lam_lex (by assumption) _ _ _ _ _ _ _ (by assumption)).2 _ _ _ (by assumption)) trivial ?_; k_whole; intro _ _ _ _ _ N' _ hp9; obtain ⟨e1, e2⟩ := hp9; subst e1; subst e2; (try dsimp only [lexLed, List.cons_append, List.nil_append] at N'); (try k_sweep))
  k_steps
  all_goals first
    | (have hc := eq10 (by assumption); exact hret _ _ _ _ (by k_asm) (by k_asm) (by assumption) ⟨rfl, _, by rw [if_pos hc]; rfl⟩)
    | (have hc := ne10 (by assumption); exact hret _ _ _ _ (by k_asm) (by k_asm) (by assumption) ⟨rfl, _, by rw [if_neg hc]; rfl⟩)
    | (have hc := ne10' (by assumption); exact hret _ _ _ _ (by k_asm) (by k_asm) (by assumption) ⟨rfl, _, by rw [if_neg hc]; rfl⟩)
theorem ct_read0 (w : World) (a : LexA) (ok : LexOk w a) (line : Int) (u : Tok) (qs : List (PySem.Str × Tok)) (nq ny : Nat) (own : List (Addr × Obj)) (hoff : OwnOff own a.adrs) :
    Ct w 20 200 52 [.ref a.x] (lexLed a line u qs nq [] ny ++ own) True
      (fun r n' => (∃ t', r = .str (S []) t') ∧ n' = lexLed a line u qs nq [] ny ++ own) := by
  unfold Ct
  k_fill
  intro p loose mean mg mb dp un gd env outer A₀ base h₀ L m s Q E B F X N T hf hk hdp hun htk hx hret
  obtain ⟨⟨_, _, _, _, _, _, _, _⟩, ⟨_, _, _, _, _, _, _, _⟩, _, _, _, _, _, _, _, _⟩ := nd9 ok.nd
  dsimp only [lexLed, List.cons_append, List.nil_append] at N
  refine codeAny_with_toks htk ?_
  k_dflt ktr_enter
  refine gentoks2 (Nat.le_trans htk (Nat.le_add_right _ _)) ?_
  intro tk htk1
  k_steps
  unfold Hold
  k_dflt (refine' ct_useA ((lam_lex (by assumption) _ _ _ _ _ _ _ (by assumption)).1) trivial ?_; k_whole; intro _ _ _ _ _ N' _ hp9; obtain ⟨⟨_, e1⟩, e2⟩ := hp9; subst e1; subst e2; (try dsimp only [lexLed, List.cons_append, List.nil_append] at N'); (try k_sweep))
  k_steps
  all_goals first
    | (exfalso; have hc := nil10 (by assumption); exact hc)
    | exact hret _ _ _ _ (by k_asm) (by k_asm) (by assumption) ⟨⟨_, rfl⟩, rfl⟩
end Mine
end SRead1
section SGen1
open PySem PySem.W PyProof.Rows PySem.Calls
set_option Elab.async false
set_option maxRecDepth 100000
set_option maxHeartbeats 8000000
set_option pp.maxSteps 400
set_option autoImplicit false
namespace Mine
section
variable {w : World} {p : Program} {loose : List Str} {mean : ExcName → Option Value} {mg mb : Str → Option Value} {dp un : Nat} {gd : Option (List Code)} {env : Env} {outer : List Env} {A₀ : Around} {base h₀ : Heap} {L : Addr} {m : Str → Option Value} {s : Shared} {E : Value → Shared → Prop}
  {a : LexA} {line : Int} {u tS : Tok} {nq ny : Nat} {I q : Addr} {own : List (Addr × Obj)}
/-- the iterator over the lexer's signs, and the lexer, on the ledger -/
abbrev ciLed (a : LexA) (I q : Addr) (tS : Tok) (over : Bool) (line : Int) (u : Tok) (nq : Nat) (ys : List (PySem.Str × Tok)) (ny : Nat) (own : List (Addr × Obj)) : List (Addr × Obj) :=
  (I, if over then ciObj .none .none true else ciObj (.ref q) (.str (S []) tS) false) :: (q, methodObj (.ref 52) (.ref a.x)) :: (lexLed a line u [] nq ys ny ++ own)
theorem ci_perm {I q : Addr} {oI oq : Obj} {l own : List (Addr × Obj)} (x : Addr × Obj) : x ∈ (I, oI) :: (q, oq) :: (l ++ own) ↔ x ∈ l ++ ((I, oI) :: (q, oq) :: own) := by
  constructor
  · intro h
    rcases List.mem_cons.mp h with h | h
    · rw [h]; exact List.mem_append_right _ (.head _)
    · rcases List.mem_cons.mp h with h | h
      · rw [h]; exact List.mem_append_right _ (.tail _ (.head _))
      · rcases List.mem_append.mp h with h | h
        · exact List.mem_append_left _ h
        · exact List.mem_append_right _ (.tail _ (.tail _ h))
  · intro h
    rcases List.mem_append.mp h with h | h
    · exact .tail _ (.tail _ (List.mem_append_left _ h))
    · rcases List.mem_cons.mp h with h | h
      · rw [h]; exact .head _
      · rcases List.mem_cons.mp h with h | h
        · rw [h]; exact .tail _ (.head _)
        · exact .tail _ (.tail _ (List.mem_append_right _ h))
theorem next_some (ok : LexOk w a) {ys : List (PySem.Str × Tok)} {c : Nat} {ty : Tok} {Q : Option Value → Shared → Prop} (hoff : OwnOff own a.adrs) (hI : ∀ b ∈ a.adrs, I ≠ b) (hq : ∀ b ∈ a.adrs, q ≠ b) (hys : ys.length ≤ 100000)
    (B : Below A₀ base outer h₀) (F : Fr h₀ L s.heap m) (X : (hd.heap_39 w.params).In h₀) (N : News h₀ L s.heap (ciLed a I q tS false line u nq (ys ++ [(S [c], ty)]) ny own)) (T : Top p loose mean mg mb h₀) (hf : env.frame = some L) (hk : env.scope.kind = .function) (hdp : dp + 30 < recursionLimit) (hu : un + 300 < cLine) (ht : 1 ≤ s.toks)
    (ret : ∀ h' tk' u', Fr h₀ L h' m → News h₀ L h' (ciLed a I q tS false (if c = 10 then line + 1 else line) u' nq ys (ny + 1) own) → 1 ≤ tk' → Q (some (.str (S [c]) ty)) { s with heap := h', toks := tk' }) :
    wpAny (model PySem.Challenge.rw_rw0051_01.row.prog w) (cT dp un gd env outer) (pyNext (.ref I)) Q E s := by
  obtain ⟨oc, od, fd, sl, hlk⟩ : ∃ oc od fd sl, (hd.heap_39 w.params).lookup 52 = some ⟨oc, od, .func fd, sl⟩ := ⟨_, _, _, _, rfl⟩
  have off2 : OwnOff ((I, ciObj (.ref q) (.str (S []) tS) false) :: (q, methodObj (.ref 52) (.ref a.x)) :: own) a.adrs := off_cons hI (off_cons hq hoff)
  refine ci_next_item (N _ (.head _)).1 (N _ (.tail _ (.head _))).1 (F.keep _ _ (X _ _ hlk)) fun E' => ?_
  refine codeAny_mono (ct_read1 w a ok line u [] nq ny _ off2 ys c ty hys p loose mean mg mb dp (un + 1) gd env outer A₀ base h₀ L m s
    (fun v s' => ∃ c' l tv, v = .str (S (c' :: l)) tv ∧ s'.heap.get? I = some (ciObj (.ref q) (.str (S []) tS) false) ∧ Q (some (.str (S (c' :: l)) tv)) s') E' B F X (cb_drop N fun x hx => (ci_perm x).mpr hx) T hf hk (by omega) (by omega) ht trivial
    (fun r h' tk' n' F' N' ht' hP => ?_)) fun r s' h => h
  obtain ⟨rfl, u', rfl⟩ := hP
  have N2 : News h₀ L h' (ciLed a I q tS false (if c = 10 then line + 1 else line) u' nq ys (ny + 1) own) := cb_drop N' fun x hx => (ci_perm x).mp hx
  exact ⟨c, [], ty, rfl, (N2 _ (.head _)).1, ret h' tk' u' F' N2 ht'⟩
theorem next_none (ok : LexOk w a) {Q : Option Value → Shared → Prop} (hoff : OwnOff own a.adrs) (hI : ∀ b ∈ a.adrs, I ≠ b) (hq : ∀ b ∈ a.adrs, q ≠ b) (hIq : I ≠ q) (hIo : ∀ x ∈ own, x.1 ≠ I)
    (B : Below A₀ base outer h₀) (F : Fr h₀ L s.heap m) (X : (hd.heap_39 w.params).In h₀) (N : News h₀ L s.heap (ciLed a I q tS false line u nq [] ny own)) (T : Top p loose mean mg mb h₀) (hf : env.frame = some L) (hk : env.scope.kind = .function) (hdp : dp + 30 < recursionLimit) (hu : un + 300 < cLine) (ht : 1 ≤ s.toks)
    (ret : ∀ h' tk', Fr h₀ L h' m → News h₀ L h' (ciLed a I q tS true line u nq [] ny own) → 1 ≤ tk' → Q none { s with heap := h', toks := tk' }) :
    wpAny (model PySem.Challenge.rw_rw0051_01.row.prog w) (cT dp un gd env outer) (pyNext (.ref I)) Q E s := by
  obtain ⟨oc, od, fd, sl, hlk⟩ : ∃ oc od fd sl, (hd.heap_39 w.params).lookup 52 = some ⟨oc, od, .func fd, sl⟩ := ⟨_, _, _, _, rfl⟩
  have off2 : OwnOff ((I, ciObj (.ref q) (.str (S []) tS) false) :: (q, methodObj (.ref 52) (.ref a.x)) :: own) a.adrs := off_cons hI (off_cons hq hoff)
  refine ci_next_end rfl (N _ (.head _)).1 (N _ (.tail _ (.head _))).1 (F.keep _ _ (X _ _ hlk)) fun E' => ?_
  refine codeAny_mono (ct_read0 w a ok line u [] nq ny _ off2 p loose mean mg mb dp (un + 1) gd env outer A₀ base h₀ L m s
    (fun v s' => ∃ tv, v = .str (S []) tv ∧ s'.heap.get? I = some (ciObj (.ref q) (.str (S []) tS) false) ∧ s'.heap.get? q = some (methodObj (.ref 52) (.ref a.x)) ∧ s'.heap.get? 52 = some ⟨oc, od, .func fd, sl⟩ ∧
          (∀ h', h'.get? I = some (ciObj .none .none true) → (∀ b o, b ≠ I → s'.heap.get? b = some o → h'.get? b = some o) → Q none { s' with heap := h' })) E' B F X (cb_drop N fun x hx => (ci_perm x).mpr hx) T hf hk (by omega) (by omega) ht trivial
    (fun r h' tk' n' F' N' ht' hP => ?_)) fun r s' h => h
  obtain ⟨⟨t', rfl⟩, rfl⟩ := hP
  have N2 : News h₀ L h' (ciLed a I q tS false line u nq [] ny own) := cb_drop N' fun x hx => (ci_perm x).mp hx
  have zI := N2 _ (.head _)
  refine ⟨t', rfl, zI.1, (N2 _ (.tail _ (.head _))).1, F'.keep _ _ (X _ _ hlk), fun h2 hI2 hk2 => ret h2 tk' ?_ ?_ ht'⟩
  · obtain ⟨oL, es, ep, hL, r⟩ := F'.ns
    refine ⟨⟨oL, es, ep, hk2 _ _ (Ne.symm zI.2.1) hL, r⟩, fun b o e => hk2 b o (fun q => ?_) (F'.keep b o e), F'.above⟩
    have := zI.2.2; rw [← q, e] at this; cases this
  · intro x hx
    rcases List.mem_cons.mp hx with rfl | hx
    · exact ⟨hI2, zI.2⟩
    · have hxN := N2 x (.tail _ hx)
      refine ⟨hk2 _ _ ?_ hxN.1, hxN.2⟩
      rcases List.mem_cons.mp hx with rfl | hx
      · exact Ne.symm hIq
      · rcases List.mem_append.mp hx with hx | hx
        · have : x.1 ∈ a.adrs := by
            repeat (rcases List.mem_cons.mp hx with rfl | hx; · (repeat first | exact List.Mem.head _ | refine List.Mem.tail _ ?_))
            cases hx
          exact Ne.symm (hI _ this)
        · exact hIo x hx
theorem next_over {Q : Option Value → Shared → Prop} {ys : List (PySem.Str × Tok)} (F : Fr h₀ L s.heap m) (N : News h₀ L s.heap (ciLed a I q tS true line u nq ys ny own))
    (ret : ∀ h', Fr h₀ L h' m → News h₀ L h' (ciLed a I q tS true line u nq ys ny own) → Q none { s with heap := h' }) :
    wpAny (model PySem.Challenge.rw_rw0051_01.row.prog w) (cT dp un gd env outer) (pyNext (.ref I)) Q E s :=
  ci_next_over rfl (N _ (.head _)).1 fun h' hk => ret h' (F.keeps hk) fun x hx => ⟨hk _ _ (N x hx).1, (N x hx).2⟩
end
end Mine
end SGen1
section SLoop1
open PySem PySem.W PyProof.Rows PySem.Calls
set_option Elab.async false
set_option maxRecDepth 100000
set_option maxHeartbeats 8000000
set_option pp.maxSteps 400
set_option autoImplicit false
namespace Mine
abbrev gm (x I : Addr) (tok : List Nat) (t : Tok) (m₂ : PySem.Str → Option Value) : PySem.Str → Option Value :=
  fun y => if y = ("token" : PySem.Str) then some (.str (S tok) t) else if y = ("self" : PySem.Str) then some (.ref x) else if y = ("fiter" : PySem.Str) then some (.ref I) else m₂ y
theorem gm_of {m : PySem.Str → Option Value} {x I : Addr} {tok : List Nat} {t : Tok} (h1 : m ("token" : PySem.Str) = some (.str (S tok) t)) (h2 : m ("self" : PySem.Str) = some (.ref x)) (h3 : m ("fiter" : PySem.Str) = some (.ref I)) : m = gm x I tok t m := by
  funext y
  show m y = if y = ("token" : PySem.Str) then some (.str (S tok) t) else if y = ("self" : PySem.Str) then some (.ref x) else if y = ("fiter" : PySem.Str) then some (.ref I) else m y
  by_cases e1 : y = ("token" : PySem.Str)
  · rw [if_pos e1, e1, h1]
  · rw [if_neg e1]
    by_cases e2 : y = ("self" : PySem.Str)
    · rw [if_pos e2, e2, h2]
    · rw [if_neg e2]
      by_cases e3 : y = ("fiter" : PySem.Str)
      · rw [if_pos e3, e3, h3]
      · rw [if_neg e3]
/-- where the reading of a token stands: the signs l unread, the token tok -/
def CiSt (a : LexA) (I q : Addr) (tS : Tok) (nq : Nat) (own : List (Addr × Obj)) (h₀ : Heap) (L : Addr) (C : Int) (over : Bool) (l tok : List Nat) (s s' : Shared) : Prop :=
  ∃ h' tk m₂ t ys ny u line, s' = { s with heap := h', toks := tk } ∧ 1 ≤ tk ∧ Fr h₀ L h' (gm a.x I tok t m₂) ∧ News h₀ L h' (ciLed a I q tS over line u nq ys ny own) ∧ ys.map (·.1) = ones l.reverse ∧ line + (l.count 10 : Nat) = C
theorem ones_snoc {ys : List (PySem.Str × Tok)} {c : Nat} {l : List Nat} (h : ys.map (·.1) = ones (c :: l).reverse) : ∃ ys' ty, ys = ys' ++ [(S [c], ty)] ∧ ys'.map (·.1) = ones l.reverse := by
  have e : ones (c :: l).reverse = ones l.reverse ++ [S [c]] := by simp [ones]
  rw [e] at h
  obtain ⟨a, b, rfl, h1, h2⟩ := List.map_eq_append_iff.mp h
  obtain ⟨y, r, rfl, h3, h4⟩ := List.map_eq_cons_iff.mp h2
  have : r = [] := List.map_eq_nil_iff.mp h4
  subst this
  obtain ⟨y1, y2⟩ := y
  simp only at h3
  subst h3
  exact ⟨a, y2, rfl, h1⟩
section
variable {w : World} {p : Program} {loose : List Str} {mean : ExcName → Option Value} {mg mb : Str → Option Value} {dp un : Nat} {gd : Option (List Code)} {env : Env} {outer : List Env} {A₀ : Around} {base h₀ : Heap} {s : Shared} {E : Value → Shared → Prop}
  {a : LexA} {tS : Tok} {nq : Nat} {I q : Addr} {own : List (Addr × Obj)} {C : Int}
/-- what a turn of a loop over the signs leaves behind -/
def CiTurn (a : LexA) (I q : Addr) (tS : Tok) (nq : Nat) (own : List (Addr × Obj)) (h₀ : Heap) (L : Addr) (C : Int) (Inv : List Nat → List Nat → Prop) (InvO : List Nat → Prop) (Q : Flow → Shared → Prop) (s : Shared) (k : Nat) (f : Flow) (s₃ : Shared) : Prop := match f with
  | .ret v => Q (.ret v) s₃
  | .brk => Q .next s₃
  | _ => (∃ l' tok', l'.length ≤ k ∧ Inv l' tok' ∧ CiSt a I q tS nq own h₀ L C false l' tok' s s₃) ∨ (∃ tok', InvO tok' ∧ CiSt a I q tS nq own h₀ L C true [] tok' s s₃)
theorem ci_loop {Inv : List Nat → List Nat → Prop} {InvO : List Nat → Prop} {Q : Flow → Shared → Prop} {body : List Stmt} {px : Pos} (ok : LexOk w a) (hoff : OwnOff own a.adrs) (hI : ∀ b ∈ a.adrs, I ≠ b) (hq : ∀ b ∈ a.adrs, q ≠ b) (hIq : I ≠ q) (hIo : ∀ x ∈ own, x.1 ≠ I)
    (B : Below A₀ base outer h₀) (X : (hd.heap_39 w.params).In h₀) (T : Top p loose mean mg mb h₀) (hf : env.frame = some env.locals) (hk : env.scope.kind = .function) (hdp : dp + 30 < recursionLimit) (hu : un + 300 < cLine)
    (hx : env.kindOf "ch" = some .local) (hpp : (env.scope.kind == .class || (env.scope.kind == .module && env.locals != env.globals)) = false)
    {l₀ tok₀ : List Nat} (hlen : l₀.length ≤ 100000) (hinv : Inv l₀ tok₀) (hst : CiSt a I q tS nq own h₀ env.locals C false l₀ tok₀ s s)
    (turn : ∀ c l tok tc (h : Heap) tk m₂ t ys ny u line, l.length ≤ 100000 → Inv (c :: l) tok → 1 ≤ tk → Fr h₀ env.locals h (fun y => if y = ("ch" : PySem.Str) then some (.str (S [c]) tc) else gm a.x I tok t m₂ y) → News h₀ env.locals h (ciLed a I q tS false line u nq ys ny own) → ys.map (·.1) = ones l.reverse → line + (l.count 10 : Nat) = C →
      ∀ E', wpAny (model PySem.Challenge.rw_rw0051_01.row.prog w) (cT dp un gd env outer) (execs body env) (CiTurn a I q tS nq own h₀ env.locals C Inv InvO Q s l.length) E' { s with heap := h, toks := tk })
    (fin : ∀ tok s', (Inv [] tok ∨ InvO tok) → CiSt a I q tS nq own h₀ env.locals C true [] tok s s' → Q .next s') :
    codeAny (model PySem.Challenge.rw_rw0051_01.row.prog w) (cT dp un gd env outer) (.forLoop (.Name "ch" px) (.ref I) body [] env) (fun r s' => match r with | .ok f => Q f s' | .error e => E e s') s := by
  refine codeAny_forLoop (fun n s' => (∃ l tok, Inv l tok ∧ CiSt a I q tS nq own h₀ env.locals C false l tok s s' ∧ n = l.length + 1 ∧ l.length ≤ 100000) ∨ (∃ tok, InvO tok ∧ CiSt a I q tS nq own h₀ env.locals C true [] tok s s' ∧ n = 0)) ?_ (l₀.length + 1) (.inl ⟨l₀, tok₀, hinv, hst, rfl, hlen⟩)
  rintro n s' (⟨l, tok, hi, ⟨h', tk, m₂, t, ys, ny, u, line, rfl, htk, F, N, hys, hC⟩, rfl, hl⟩ | ⟨tok, hi, ⟨h', tk, m₂, t, ys, ny, u, line, rfl, htk, F, N, hys, hC⟩, rfl⟩)
  · cases l with
    | nil =>
      have hys' : ys = [] := List.map_eq_nil_iff (f := Prod.fst).mp (by rw [hys]; rfl)
      subst hys'
      refine next_none ok hoff hI hq hIq hIo B F X N T hf hk hdp hu htk fun h2 tk2 F2 N2 ht2 => wpAny_execs_nil ?_
      exact fin tok _ (.inl hi) ⟨h2, tk2, m₂, t, [], ny, u, line, rfl, ht2, F2, N2, rfl, hC⟩
    | cons c l =>
      obtain ⟨ys', ty, rfl, hys'⟩ := ones_snoc hys
      have hl' : l.length ≤ 100000 := by simp at hl; omega
      have hyl : ys'.length ≤ 100000 := by
        have := congrArg List.length hys'
        simp [ones] at this; omega
      refine next_some ok hoff hI hq hyl B F X N T hf hk hdp hu htk fun h2 tk2 u2 F2 N2 ht2 => ?_
      refine wpAny_assign_Name (wpAny_storeName_local hx F2.ns (fun h3 hn3 hs3 => ?_) hpp)
      have hC' : (if c = 10 then line + 1 else line) + (l.count 10 : Nat) = C := by
        rw [← hC, List.count_cons]
        by_cases e : c = 10
        · subst e; simp; omega
        · have : (c == 10) = false := by simpa using e
          simp [e]
      refine wpAny_mono (turn c l tok ty h3 (tk2 + 1) m₂ t ys' (ny + 1) u2 _ hl' hi (by omega) (F2.set hn3 hs3) (N2.set hs3) hys' hC' _) (fun f s₃ hT => ?_) fun _ _ e => e
      have go : ((∃ l' tok', l'.length ≤ l.length ∧ Inv l' tok' ∧ CiSt a I q tS nq own h₀ env.locals C false l' tok' s s₃) ∨ (∃ tok', InvO tok' ∧ CiSt a I q tS nq own h₀ env.locals C true [] tok' s s₃)) →
          ∃ m, m < (c :: l).length + 1 ∧ ((∃ l tok, Inv l tok ∧ CiSt a I q tS nq own h₀ env.locals C false l tok s s₃ ∧ m = l.length + 1 ∧ l.length ≤ 100000) ∨ (∃ tok, InvO tok ∧ CiSt a I q tS nq own h₀ env.locals C true [] tok s s₃ ∧ m = 0)) := by
        rintro (⟨l', tok', h1, h2, h3⟩ | ⟨tok', h1, h2⟩)
        · exact ⟨l'.length + 1, by simp; omega, .inl ⟨l', tok', h2, h3, rfl, by omega⟩⟩
        · exact ⟨0, by simp, .inr ⟨tok', h1, h2, rfl⟩⟩
      cases f with
      | ret v => exact hT
      | brk => exact hT
      | next => exact go hT
      | cont => exact go hT
  · refine next_over F N fun h2 F2 N2 => wpAny_execs_nil ?_
    exact fin tok _ (.inr hi) ⟨h2, tk, m₂, t, ys, ny, u, line, rfl, htk, F2, N2, hys, hC⟩
end
end Mine
end SLoop1
section SGetA1
open PySem PySem.W PyProof.Rows PySem.Calls
set_option Elab.async false
set_option maxRecDepth 100000
set_option maxHeartbeats 8000000
set_option pp.maxSteps 400
set_option autoImplicit false
namespace Mine
/-- a char is read, or none is left, with an iterator under way -/
theorem ct_readC (w : World) (a : LexA) (ok : LexOk w a) (line : Int) (u tS : Tok) (nq ny : Nat) (I q : Addr) (own : List (Addr × Obj)) (hoff : OwnOff own a.adrs) (hI : ∀ b ∈ a.adrs, I ≠ b) (hq : ∀ b ∈ a.adrs, q ≠ b) (l : List Nat) (ys : List (PySem.Str × Tok)) (hys : ys.map (·.1) = ones l.reverse) (hl : l.length ≤ 100000) :
    Ct w 20 200 52 [.ref a.x] (ciLed a I q tS false line u nq ys ny own) True
      (fun r n' => ∃ t' u' ny' ys', r = .str (S (l.take 1)) t' ∧ ys'.map (·.1) = ones (l.drop 1).reverse ∧ n' = ciLed a I q tS false (line + ((l.take 1).count 10 : Nat)) u' nq ys' ny' own) := by
  have off2 : OwnOff ((I, ciObj (.ref q) (.str (S []) tS) false) :: (q, methodObj (.ref 52) (.ref a.x)) :: own) a.adrs := off_cons hI (off_cons hq hoff)
  cases l with
  | nil =>
    have hys' : ys = [] := List.map_eq_nil_iff (f := Prod.fst).mp (by rw [hys]; rfl)
    subst hys'
    refine (ct_read0 w a ok line u [] nq ny _ off2).perm (fun x hx => (ci_perm x).mpr hx) fun r n hP => ⟨ciLed a I q tS false line u nq [] ny own, fun x hx => ?_, ?_⟩
    · rw [hP.2]; exact (ci_perm x).mp hx
    · obtain ⟨⟨t', e⟩, _⟩ := hP
      exact ⟨t', u, ny, [], e, rfl, by simp⟩
  | cons c l =>
    obtain ⟨ys', ty, rfl, hys'⟩ := ones_snoc hys
    have hyl : ys'.length ≤ 100000 := by
      have := congrArg List.length hys'
      simp [ones] at this hl; omega
    refine (ct_read1 w a ok line u [] nq ny _ off2 ys' c ty hyl).perm (fun x hx => (ci_perm x).mpr hx) fun r n hP => ?_
    obtain ⟨e, u', e2⟩ := hP
    refine ⟨ciLed a I q tS false (if c = 10 then line + 1 else line) u' nq ys' (ny + 1) own, fun x hx => ?_, ty, u', ny + 1, ys', e, hys', ?_⟩
    · rw [e2]; exact (ci_perm x).mp hx
    · have : (line + (([c].count 10 : Nat) : Int)) = if c = 10 then line + 1 else line := by
        by_cases h : c = 10
        · subst h; simp
        · have hc : (c == 10) = false := by simpa using h
          rw [if_neg h, List.count_cons, hc]; simp
      show _ = ciLed a I q tS false (line + (([c].count 10 : Nat) : Int)) u' nq ys' (ny + 1) own
      rw [this]
def ws (c : Nat) : Bool := c == 10 || c == 9 || c == 13 || c == 32
/-- the rest of a word without quotation marks -/
def runA : List Nat → List Nat → List Nat × List Nat
  | tok, [] => (tok, [])
  | tok, c :: r => if ws c then (tok, r) else if c = 92 then (match r with | [] => (tok, []) | d :: r' => runA (tok ++ [d]) r') else runA (tok ++ [c]) r
/-- the rest of a word in quotation marks -/
def runQ : List Nat → List Nat → List Nat × List Nat
  | tok, [] => (tok, [])
  | tok, c :: r => if c = 34 then (tok, r) else if c = 92 then (match r with | [] => (tok, []) | d :: r' => runQ (tok ++ [d]) r') else runQ (tok ++ [c]) r
/-- a token: the text's first word and what is left -/
def lexTok : List Nat → List Nat × List Nat
  | [] => ([], [])
  | c :: r => if ws c then lexTok r else if c = 34 then runQ [] r else if c = 92 then runA (r.take 1) (r.drop 1) else runA [c] r
def loopsOf (K : Frag) : Option (PySem.Str × Scope × Value × Stmt × Stmt × Stmt) := match K.lookup 59 with
  | some ⟨_, _, .func ⟨_, q, _, .stmts [_, _, _, fo, _], sc, _, _, _, _, _, _, _, cd, _, _⟩, _⟩ => (match fo with
    | .For _ _ [_, .If _ [fq] [_, _, fa] _] _ _ => some (q, sc, cd, fo, fq, fa)
    | _ => none)
  | _ => none
section
variable {w : World} {p : Program} {loose : List Str} {mean : ExcName → Option Value} {mg mb : Str → Option Value} {dp un : Nat} {gd : Option (List Code)} {outer : List Env} {A₀ : Around} {base h₀ : Heap} {L : Addr} {s : Shared} {E : Value → Shared → Prop}
  {a : LexA} {tS : Tok} {nq : Nat} {I q : Addr} {own : List (Addr × Obj)} {C : Int} {m : PySem.Str → Option Value}
theorem ci_pyIter {Q : Value → Shared → Prop} {o1 o2 : Value} {b : Bool} {A : Around} {prog : Program} (hI : s.heap.get? I = some (ciObj o1 o2 b)) (h : Q (.ref I) s) : wpAny (model prog w) A (pyIter (.ref I)) Q E s := by
  refine wpAny_pyIter_slot (ci_type hI) slot_ci_iter (wpAny_call_entry slot_ci_iter (ci_type hI) entry_ci_iter ?_ (args_ci_iter _))
  show wpAny _ _ (ret (.ref I)) _ _ s
  exact wpAny_pure ⟨_, rfl, "callable_iterator", _, ci_type hI, slot_ci_next.lookup, h⟩
theorem ci_for {fa : Addr} {qn : PySem.Str} {sc : Scope} {cd : Value} {Inv : List Nat → List Nat → Prop} {InvO : List Nat → Prop} {Q : Flow → Shared → Prop} {body : List Stmt} {px pf pos : Pos} {t u : Tok} {line : Int} {ys : List (PySem.Str × Tok)} {ny : Nat} (ok : LexOk w a) (hoff : OwnOff own a.adrs) (hI : ∀ b ∈ a.adrs, I ≠ b) (hq : ∀ b ∈ a.adrs, q ≠ b) (hIq : I ≠ q) (hIo : ∀ x ∈ own, x.1 ≠ I)
    (B : Below A₀ base outer h₀) (F : Fr h₀ L s.heap m) (X : (hd.heap_39 w.params).In h₀) (N : News h₀ L s.heap (ciLed a I q tS false line u nq ys ny own)) (T : Top p loose mean mg mb h₀) (hk : sc.kind = .function) (hdp : dp + 30 < recursionLimit) (hu : un + 300 < cLine) (ht : 1 ≤ s.toks)
    (hx : (envOf qn sc L fa cd).kindOf "ch" = some .local) (hx2 : (envOf qn sc L fa cd).kindOf "fiter" = some .local)
    {l₀ tok₀ : List Nat} (hlen : l₀.length ≤ 100000) (hinv : Inv l₀ tok₀) (h1 : m ("token" : PySem.Str) = some (.str (S tok₀) t)) (h2 : m ("self" : PySem.Str) = some (.ref a.x)) (h3 : m ("fiter" : PySem.Str) = some (.ref I)) (hys : ys.map (·.1) = ones l₀.reverse) (hC : line + (l₀.count 10 : Nat) = C)
    (turn : ∀ c l tok tc (h : Heap) tk m₂ t ys ny u line, l.length ≤ 100000 → Inv (c :: l) tok → 1 ≤ tk → Fr h₀ L h (fun y => if y = ("ch" : PySem.Str) then some (.str (S [c]) tc) else gm a.x I tok t m₂ y) → News h₀ L h (ciLed a I q tS false line u nq ys ny own) → ys.map (·.1) = ones l.reverse → line + (l.count 10 : Nat) = C →
      ∀ E', wpAny (model PySem.Challenge.rw_rw0051_01.row.prog w) (cT dp un gd (envOf qn sc L fa cd) outer) (execs body (envOf qn sc L fa cd)) (CiTurn a I q tS nq own h₀ L C Inv InvO Q s l.length) E' { s with heap := h, toks := tk })
    (fin : ∀ tok s', (Inv [] tok ∨ InvO tok) → CiSt a I q tS nq own h₀ L C true [] tok s s' → Q .next s')
    (hs : ∀ v, foldedSetIterable (.Name "fiter" pf) (envOf qn sc L fa cd) v = pure v) :
    wpAny (model PySem.Challenge.rw_rw0051_01.row.prog w) (cT dp un gd (envOf qn sc L fa cd) outer) (exec (.For (.Name "ch" px) (.Name "fiter" pf) body [] pos) (envOf qn sc L fa cd)) Q E s := by
  refine wpAny_For ?_ hs
  refine ld F h3 ?_ hk hx2
  refine ci_pyIter (N _ (.head _)).1 ?_
  exact ci_loop (env := envOf qn sc L fa cd) ok hoff hI hq hIq hIo B X T rfl hk hdp hu hx (by show (sc.kind == .class || (sc.kind == .module && L != mainGlobals)) = false; rw [hk]; rfl) hlen hinv
    ⟨s.heap, s.toks, m, t, ys, ny, u, line, rfl, ht, gm_of h1 h2 h3 ▸ F, N, hys, hC⟩ turn fin
theorem ci_end {Inv : List Nat → List Nat → Prop} {InvO : List Nat → Prop} {Q : Flow → Shared → Prop} {h' : Heap} {tk k : Nat} {t u : Tok} {ys : List (PySem.Str × Tok)} {ny : Nat} {line : Int} {l tok : List Nat} (F : Fr h₀ L h' m) (N : News h₀ L h' (ciLed a I q tS false line u nq ys ny own)) (htk : 1 ≤ tk)
    (h1 : m ("token" : PySem.Str) = some (.str (S tok) t)) (h2 : m ("self" : PySem.Str) = some (.ref a.x)) (h3 : m ("fiter" : PySem.Str) = some (.ref I)) (hys : ys.map (·.1) = ones l.reverse) (hC : line + (l.count 10 : Nat) = C) (hl : l.length ≤ k) (hi : Inv l tok) :
    CiTurn a I q tS nq own h₀ L C Inv InvO Q s k .next { s with heap := h', toks := tk } :=
  .inl ⟨l, tok, hl, hi, h', tk, m, t, ys, ny, u, line, rfl, htk, gm_of h1 h2 h3 ▸ F, N, hys, hC⟩
end
end Mine
end SGetA1
section SGetB1
namespace Mine
theorem fresh6 : True := by
  w_top off
  trivial
end Mine
open PySem PySem.W PyProof.Rows PySem.Calls
set_option Elab.async false
set_option maxRecDepth 100000
set_option maxHeartbeats 8000000
set_option pp.maxSteps 400
set_option autoImplicit false
namespace Mine
theorem of_bs : PySem.Str.ofString "\\" = S [92] := by decide +kernel
theorem eq92 {c : Nat} (h : (S [c] == PySem.Str.ofString "\\") = true) : c = 92 := by
  rw [of_bs] at h
  simpa using S_inj (beq_iff_eq.mp h)
theorem ne92 {c : Nat} (h : (S [c] == PySem.Str.ofString "\\") = false) : ¬ c = 92 := fun e => by
  subst e; rw [of_bs] at h; simp at h
theorem ne92' {c : Nat} (h : ¬ (S [c] == PySem.Str.ofString "\\") = true) : ¬ c = 92 := ne92 (Bool.eq_false_iff.mpr h)
theorem eq34 {c : Nat} (h : (S [c] == PySem.Str.ofString "\"") = true) : c = 34 := by
  rw [of_quot] at h
  simpa using S_inj (beq_iff_eq.mp h)
theorem ne34 {c : Nat} (h : (S [c] == PySem.Str.ofString "\"") = false) : ¬ c = 34 := fun e => by
  subst e; rw [of_quot] at h; simp at h
theorem ne34' {c : Nat} (h : ¬ (S [c] == PySem.Str.ofString "\"") = true) : ¬ c = 34 := ne34 (Bool.eq_false_iff.mpr h)
theorem iaddS {prog : Program} {w : World} {A : Around} {s : Shared} {Q : Value → Shared → Prop} {E : Value → Shared → Prop} {x y : List Nat} {t u : Tok} (hk : 1 ≤ s.toks) (hsz : x.length + y.length ≤ 1000000) (h : ∀ t' k, 1 ≤ k → Q (.str (S (x ++ y)) t') { s with toks := k }) : wpAny (model prog w) A (inplaceOp .Add (.str (S x) t) (.str (S y) u)) Q E s := by
  have hz : (S x).length + (S y).length ≤ sizeLine := by rw [S_len, S_len, sizeLine_eq]; omega
  refine wpAny_mono (wpAny_toks_of (n := 1) (Q := fun v s' => ∃ t' k, v = .str (S (x ++ y)) t' ∧ s' = { s with toks := k }) (E := E) hk (PyProof.Rows.iadd_str (fun t' k => ⟨t', k, by rw [S_append], rfl⟩) hz)) (fun v s' hv => ?_) fun _ _ e => e.2
  obtain ⟨hk', t', k, rfl, rfl⟩ := hv
  exact h t' k hk'
theorem runQ_quot (tok l : List Nat) : runQ tok (34 :: l) = (tok, l) := by cases l <;> rfl
theorem runQ_esc (tok l : List Nat) : runQ tok (92 :: l) = runQ (tok ++ l.take 1) (l.drop 1) := by
  cases l with
  | nil => simp only [List.take_nil, List.drop_nil, List.append_nil]; rfl
  | cons d r => rfl
theorem runQ_char {c : Nat} (h1 : ¬ c = 34) (h2 : ¬ c = 92) (tok l : List Nat) : runQ tok (c :: l) = runQ (tok ++ [c]) l := by cases l <;> simp [runQ, h1, h2]
theorem runA_esc (tok l : List Nat) : runA tok (92 :: l) = runA (tok ++ l.take 1) (l.drop 1) := by
  cases l with
  | nil => simp only [List.take_nil, List.drop_nil, List.append_nil]; rfl
  | cons d r => rfl
theorem runA_ws {c : Nat} (h : ws c = true) (tok l : List Nat) : runA tok (c :: l) = (tok, l) := by cases l <;> simp [runA, h]
theorem runA_char {c : Nat} (h1 : ws c = false) (h2 : ¬ c = 92) (tok l : List Nat) : runA tok (c :: l) = runA (tok ++ [c]) l := by cases l <;> simp [runA, h1, h2]
theorem cnt_drop {line C : Int} {l : List Nat} (h : line + (l.count 10 : Nat) = C) : line + ((l.take 1).count 10 : Nat) + ((l.drop 1).count 10 : Nat) = C := by
  have : l.count 10 = (l.take 1).count 10 + (l.drop 1).count 10 := by rw [← List.count_append, List.take_append_drop]
  rw [this] at h
  omega
local macro_rules | `(tactic| walk_at "inplaceOp Add str str") => `(tactic| (k_here; k_dflt (refine' iaddS (by first | assumption | (dsimp only; omega)) (by first | assumption | (simp only [List.length_cons, List.length_nil, List.length_append, List.length_take] at *; omega)) ?_; k_whole; intro _ _ _)))
local macro_rules | `(tactic| walk_at "call ref") => `(tactic| (k_here; (try dsimp only [List.cons_append, List.nil_append]); (with_reducible show wpAny _ _ (call (Value.ref 52) [Value.ref _]) _ _ _); k_dflt
  (refine' ct_useA (N := by first | k_asm | k_dflt assumption) (ct_readC _ _ ?ok _ _ _ _ _ _ _ _ ?off ?hI ?hq _ _ ?hys ?hl) trivial ?_; (case ok => assumption); (case off => assumption); (case hI => assumption); (case hq => assumption); (case hys => assumption); (case hl => assumption); k_whole; intro _ _ _ _ _ N' _ hp9; obtain ⟨_, _, _, _, e1, _, e2⟩ := hp9; subst e1; subst e2; (simp only [ciLed, lexLed, List.cons_append, List.nil_append, Bool.false_eq_true, if_false] at N'); (try k_sweep))))
section
variable {w : World} {p : Program} {loose : List Str} {mean : ExcName → Option Value} {mg mb : Str → Option Value} {dp un : Nat} {gd : Option (List Code)} {outer : List Env} {A₀ : Around} {base h₀ : Heap} {L : Addr} {s : Shared} {E : Value → Shared → Prop}
  {a : LexA} {tS : Tok} {nq : Nat} {I q : Addr} {own : List (Addr × Obj)} {C : Int} {m : PySem.Str → Option Value}
theorem ciSt_of {over : Bool} {h' : Heap} {tk : Nat} {t u : Tok} {ys : List (PySem.Str × Tok)} {ny : Nat} {line : Int} {l tok : List Nat} (F : Fr h₀ L h' m) (N : News h₀ L h' (ciLed a I q tS over line u nq ys ny own)) (htk : 1 ≤ tk)
    (h1 : m ("token" : PySem.Str) = some (.str (S tok) t)) (h2 : m ("self" : PySem.Str) = some (.ref a.x)) (h3 : m ("fiter" : PySem.Str) = some (.ref I)) (hys : ys.map (·.1) = ones l.reverse) (hC : line + (l.count 10 : Nat) = C) :
    CiSt a I q tS nq own h₀ L C over l tok s { s with heap := h', toks := tk } :=
  ⟨h', tk, m, t, ys, ny, u, line, rfl, htk, gm_of h1 h2 h3 ▸ F, N, hys, hC⟩
theorem inner_Q {fo fq fa : Stmt} {qn : PySem.Str} {sc : Scope} {cd : Value} {Q : Flow → Shared → Prop} {t u : Tok} {line : Int} {ys : List (PySem.Str × Tok)} {ny : Nat} (hlo : loopsOf (hd.heap_39 w.params) = some (qn, sc, cd, fo, fq, fa)) {l₀ tok₀ : List Nat}
    (hret : ∀ t s', CiSt a I q tS nq own h₀ L C false (runQ tok₀ l₀).2 (runQ tok₀ l₀).1 s s' → Q (.ret (.str (S (runQ tok₀ l₀).1) t)) s')
    (hend : ∀ s', (runQ tok₀ l₀).2 = [] → CiSt a I q tS nq own h₀ L C true [] (runQ tok₀ l₀).1 s s' → Q .next s')
    (F : Fr h₀ L s.heap m) (N : News h₀ L s.heap (ciLed a I q tS false line u nq ys ny own)) (ok : LexOk w a) (hoff : OwnOff own a.adrs) (hI : ∀ b ∈ a.adrs, I ≠ b) (hq : ∀ b ∈ a.adrs, q ≠ b) (hIq : I ≠ q) (hIo : ∀ x ∈ own, x.1 ≠ I) (B : Below A₀ base outer h₀) (X : (hd.heap_39 w.params).In h₀) (T : Top p loose mean mg mb h₀) (hdp : dp + 60 < recursionLimit) (hu : un + 600 < cLine) (ht : 1 ≤ s.toks) (h1 : m ("token" : PySem.Str) = some (.str (S tok₀) t)) (h2 : m ("self" : PySem.Str) = some (.ref a.x)) (h3 : m ("fiter" : PySem.Str) = some (.ref I)) (hys : ys.map (·.1) = ones l₀.reverse) (hC : line + (l₀.count 10 : Nat) = C) (hlen : l₀.length ≤ 100000) (htl : tok₀.length + l₀.length ≤ 200000) :
    wpAny (model PySem.Challenge.rw_rw0051_01.row.prog w) (cT dp un gd (envOf qn sc L 59 cd) outer) (exec fq (envOf qn sc L 59 cd)) Q E s := by
  revert hlo; k_fill; intro hlo
  have e : loopsOf (hd.heap_39 w.params) = some (_, _, _, _, _, _) := rfl
  rw [e] at hlo; cases hlo; clear e
  refine ci_for (Inv := fun l tok => runQ tok l = runQ tok₀ l₀ ∧ tok.length + l.length ≤ 200000) (InvO := fun _ => False) ok hoff hI hq hIq hIo B F X N T rfl (by omega) (by omega) ht rfl rfl hlen ⟨rfl, htl⟩ h1 h2 h3 hys hC ?turn ?fin (fun v => rfl)
  case fin =>
    rintro tok s' (⟨hi, _⟩ | hi) hS
    · have : runQ tok₀ l₀ = (tok, []) := hi.symm
      rw [this] at hend
      exact hend s' rfl hS
    · exact hi.elim
  case turn =>
    intro c l tok tc h tk m₂ t ys ny u line hl ⟨hi, hti⟩ htk F2 N2 hys hC E'
    clear F N
    dsimp only [gm] at F2
    simp only [ciLed, lexLed, List.cons_append, List.nil_append, Bool.false_eq_true, if_false] at N2
    k_steps
    · have hc := eq34 (by assumption)
      subst hc
      rw [runQ_quot] at hi
      rw [← hi] at hret
      exact hret _ _ (ciSt_of (by k_asm) (by k_dflt assumption) (by assumption) (by rfl) (by rfl) (by rfl) (by assumption) hC)
    · have hc := eq92 (by assumption)
      subst hc
      rw [runQ_esc] at hi
      exact ci_end (by k_asm) (by k_dflt assumption) (by assumption) (by rfl) (by rfl) (by rfl) (by assumption) (cnt_drop hC) (by simp) ⟨hi, by simp at *; omega⟩
    · have hc := ne92 (by assumption)
      have hc2 := ne34 (by assumption)
      rw [runQ_char hc2 hc] at hi
      exact ci_end (by k_asm) (by k_dflt assumption) (by assumption) (by rfl) (by rfl) (by rfl) (by assumption) hC (by omega) ⟨hi, by simp at *; omega⟩
end
end Mine
end SGetB1
section SLam1
namespace Mine
theorem fresh7 : True := by
  w_top off
  trivial
end Mine
open PySem PySem.W PyProof.Rows PySem.Calls
set_option Elab.async false
set_option maxRecDepth 100000
set_option maxHeartbeats 8000000
set_option pp.maxSteps 400
set_option autoImplicit false
namespace Mine
local macro_rules | `(tactic| walk_at "eval Name") => `(tactic| (k_here; (with_reducible show wpAny _ _ (eval (PySem.Expr.Name (PySem.Str.ofString "signs") _) _) _ _ _); k_dflt (refine' nameX_F (by k_asm) (by exact rfl) (by k_mem) (by assumption) ?_ (by rfl) (by rfl); k_whole)))
local macro_rules | `(tactic| walk_at "compareOp NotEq ref ref") => `(tactic| (k_here; k_dflt (refine' ne_lens (by k_asm) (by k_mem) (by k_mem) (by simp [strValues]) (by ktr_units) ?_; k_whole)))
local macro_rules | `(tactic| walk_at "call builtin:list.pop") => `(tactic| (refine Mine.Hold.out ?_))
def lamOf (K : Frag) : Option (Arguments × Expr × Scope) := match K.lookup 139 with
  | some ⟨_, _, .func fd, _⟩ => (match fd.body with
    | .stmts (_ :: _ :: .Assign _ (.Lambda a b sc _) _ :: _) => some (a, b, sc)
    | _ => none)
  | _ => none
theorem lam_gen (w : World) (a : Arguments) (b : Expr) (sc : Scope) (hl : lamOf (hd.heap_39 w.params) = some (a, b, sc)) (q : PySem.Str) (pm ct : Value) (lam cell cc : Addr) (vs : Array Value) (tq : Tok) (CO : Obj) (d1 : CO.data = .fields vs) (d2 : vs[1]? = some (.str q tq)) :
    LamSpec w lam cell (kla_obj "<lambda>" q a b sc [("signs", cell)] pm cc ct) cc CO := by
  have e : lamOf (hd.heap_39 w.params) = some (_, _, _) := rfl
  rw [e] at hl
  cases hl
  clear e
  intro sg SO nn t own hso hoff n1 n2 n3
  constructor
  · unfold Ct
    k_fill
    intro p loose mean mg mb dp un gd env outer A₀ base h₀ L m s Q E B F X N T hf hk hdp hun htk hx hret
    refine codeAny_with_toks htk ?_
    k_dflt (refine' kla_code (by k_asm) (by k_asm) (by k_asm) (by k_asm) (by k_asm) (by exact rfl) (by first | assumption | exact rfl) (by first | assumption | exact rfl) (by k_mem) (by exact codeRec_news (by k_asm) (by k_mem) (by assumption) (by assumption)) (by k_room) (by exact rfl) (by exact locs rfl) ?_ (by exact rfl) (by exact rfl) (by exact rfl) (by decide); k_whole; intro _ _ _ _ _ _ _ _ _; (try dsimp only); (try k_fold))
    k_steps
    all_goals exact hret _ _ _ _ (by k_asm) (cb_drop (by assumption) (by k_allIn)) (by assumption) ⟨⟨_, rfl⟩, rfl⟩
  · intro ys y ty hys
    unfold Ct
    k_fill
    intro p loose mean mg mb dp un gd env outer A₀ base h₀ L m s Q E B F X N T hf hk hdp hun htk hx hret
    refine codeAny_with_toks htk ?_
    k_dflt (refine' kla_code (by k_asm) (by k_asm) (by k_asm) (by k_asm) (by k_asm) (by exact rfl) (by first | assumption | exact rfl) (by first | assumption | exact rfl) (by k_mem) (by exact codeRec_news (by k_asm) (by k_mem) (by assumption) (by assumption)) (by k_room) (by exact rfl) (by exact locs rfl) ?_ (by exact rfl) (by exact rfl) (by exact rfl) (by decide); k_whole; intro _ _ _ _ _ _ _ _ _; (try dsimp only); (try k_fold))
    k_steps
    unfold Hold
    k_dflt (refine' kl_pop (by k_asm) (by k_asm) ?kez1 ?kUz1 ?kzz1 ?_; (case kUz1 => k_upd); (case kez1 => exact last_strs _ _ _); (case kzz1 => simp [strValues, sizeLine_eq]; omega); k_whole; intro _ _ _; (try k_sweep))
    k_steps
    all_goals exact hret _ _ _ _ (by k_asm) (cb_drop (by assumption) (by k_allIn)) (by assumption) ⟨rfl, rfl⟩
end Mine
end SLam1
section SGetC1
namespace Mine
theorem fresh8 : True := by
  w_top off
  trivial
end Mine
open PySem PySem.W PyProof.Rows PySem.Calls
set_option Elab.async false
set_option maxRecDepth 100000
set_option maxHeartbeats 8000000
set_option pp.maxSteps 400
set_option autoImplicit false
namespace Mine
theorem of_ws : PySem.Str.ofString "\n\t\r " = S [10, 9, 13, 32] := by decide +kernel
theorem ws_is (c : Nat) : (Builtin.Str.occurrences (PySem.Str.ofString "\n\t\r ") (S [c]) 0 (PySem.Str.ofString "\n\t\r ").length 1).isEmpty = !ws c := by
  have h := in_S c [10, 9, 13, 32]
  rw [← of_ws] at h
  rw [← Bool.not_not (List.isEmpty _), h]
  congr 1
  simp only [ws, List.mem_cons, List.not_mem_nil, or_false, Bool.decide_or, Bool.or_assoc]
  rfl
theorem ws_no {c : Nat} (h : (Builtin.Str.occurrences (PySem.Str.ofString "\n\t\r ") (S [c]) 0 (PySem.Str.ofString "\n\t\r ").length 1).isEmpty = true) : ws c = false := by
  rw [ws_is] at h; simpa using h
theorem ws_yes {c : Nat} (h : (Builtin.Str.occurrences (PySem.Str.ofString "\n\t\r ") (S [c]) 0 (PySem.Str.ofString "\n\t\r ").length 1).isEmpty = false) : ws c = true := by
  rw [ws_is] at h; simpa using h
local macro_rules | `(tactic| walk_at "inplaceOp Add str str") => `(tactic| (k_here; k_dflt (refine' iaddS (by first | assumption | (dsimp only; omega)) (by first | assumption | (simp only [List.length_cons, List.length_nil, List.length_append, List.length_take] at *; omega)) ?_; k_whole; intro _ _ _)))
local macro_rules | `(tactic| walk_at "call ref") => `(tactic| (k_here; (try dsimp only [List.cons_append, List.nil_append]); (with_reducible show wpAny _ _ (call (Value.ref 52) [Value.ref _]) _ _ _); k_dflt
  (refine' ct_useA (N := by first | k_asm | k_dflt assumption) (ct_readC _ _ ?ok _ _ _ _ _ _ _ _ ?off ?hI ?hq _ _ ?hys ?hl) trivial ?_; (case ok => assumption); (case off => assumption); (case hI => assumption); (case hq => assumption); (case hys => assumption); (case hl => assumption); k_whole; intro _ _ _ _ _ N' _ hp9; obtain ⟨_, _, _, _, e1, _, e2⟩ := hp9; subst e1; subst e2; (simp only [ciLed, lexLed, List.cons_append, List.nil_append, Bool.false_eq_true, if_false] at N'); (try k_sweep))))
section
variable {w : World} {p : Program} {loose : List Str} {mean : ExcName → Option Value} {mg mb : Str → Option Value} {dp un : Nat} {gd : Option (List Code)} {outer : List Env} {A₀ : Around} {base h₀ : Heap} {L : Addr} {s : Shared} {E : Value → Shared → Prop}
  {a : LexA} {tS : Tok} {nq : Nat} {I q : Addr} {own : List (Addr × Obj)} {C : Int} {m : PySem.Str → Option Value}
theorem inner_A {fo fq fa : Stmt} {qn : PySem.Str} {sc : Scope} {cd : Value} {Q : Flow → Shared → Prop} {t u : Tok} {line : Int} {ys : List (PySem.Str × Tok)} {ny : Nat} (hlo : loopsOf (hd.heap_39 w.params) = some (qn, sc, cd, fo, fq, fa)) {l₀ tok₀ : List Nat}
    (hret : ∀ t s', CiSt a I q tS nq own h₀ L C false (runA tok₀ l₀).2 (runA tok₀ l₀).1 s s' → Q (.ret (.str (S (runA tok₀ l₀).1) t)) s')
    (hend : ∀ s', (runA tok₀ l₀).2 = [] → CiSt a I q tS nq own h₀ L C true [] (runA tok₀ l₀).1 s s' → Q .next s')
    (F : Fr h₀ L s.heap m) (N : News h₀ L s.heap (ciLed a I q tS false line u nq ys ny own)) (ok : LexOk w a) (hoff : OwnOff own a.adrs) (hI : ∀ b ∈ a.adrs, I ≠ b) (hq : ∀ b ∈ a.adrs, q ≠ b) (hIq : I ≠ q) (hIo : ∀ x ∈ own, x.1 ≠ I) (B : Below A₀ base outer h₀) (X : (hd.heap_39 w.params).In h₀) (T : Top p loose mean mg mb h₀) (hdp : dp + 60 < recursionLimit) (hu : un + 600 < cLine) (ht : 1 ≤ s.toks) (h1 : m ("token" : PySem.Str) = some (.str (S tok₀) t)) (h2 : m ("self" : PySem.Str) = some (.ref a.x)) (h3 : m ("fiter" : PySem.Str) = some (.ref I)) (hys : ys.map (·.1) = ones l₀.reverse) (hC : line + (l₀.count 10 : Nat) = C) (hlen : l₀.length ≤ 100000) (htl : tok₀.length + l₀.length ≤ 200000) :
    wpAny (model PySem.Challenge.rw_rw0051_01.row.prog w) (cT dp un gd (envOf qn sc L 59 cd) outer) (exec fa (envOf qn sc L 59 cd)) Q E s := by
  revert hlo; k_fill; intro hlo
  have e : loopsOf (hd.heap_39 w.params) = some (_, _, _, _, _, _) := rfl
  rw [e] at hlo; cases hlo; clear e
  refine ci_for (Inv := fun l tok => runA tok l = runA tok₀ l₀ ∧ tok.length + l.length ≤ 200000) (InvO := fun _ => False) ok hoff hI hq hIq hIo B F X N T rfl (by omega) (by omega) ht rfl rfl hlen ⟨rfl, htl⟩ h1 h2 h3 hys hC ?turn ?fin (fun v => rfl)
  case fin =>
    rintro tok s' (⟨hi, _⟩ | hi) hS
    · have : runA tok₀ l₀ = (tok, []) := hi.symm
      rw [this] at hend
      exact hend s' rfl hS
    · exact hi.elim
  case turn =>
    intro c l tok tc h tk m₂ t ys ny u line hl ⟨hi, hti⟩ htk F2 N2 hys hC E'
    clear F N
    dsimp only [gm] at F2
    simp only [ciLed, lexLed, List.cons_append, List.nil_append, Bool.false_eq_true, if_false] at N2
    k_steps
    · have hc := eq92 (by assumption)
      subst hc
      rw [runA_esc] at hi
      exact ci_end (by k_asm) (by k_dflt assumption) (by assumption) (by rfl) (by rfl) (by rfl) (by assumption) (cnt_drop hC) (by simp) ⟨hi, by simp at *; omega⟩
    · have hc := ne92 (by assumption)
      have hc2 := ws_no (by assumption)
      rw [runA_char hc2 hc] at hi
      exact ci_end (by k_asm) (by k_dflt assumption) (by assumption) (by rfl) (by rfl) (by rfl) (by assumption) hC (by omega) ⟨hi, by simp at *; omega⟩
    · have hc := ws_yes (by assumption)
      rw [runA_ws hc] at hi
      rw [← hi] at hret
      exact hret _ _ (ciSt_of (by k_asm) (by k_dflt assumption) (by assumption) (by rfl) (by rfl) (by rfl) (by assumption) hC)
end
end Mine
end SGetC1
section SMkLex1
namespace Mine
theorem fresh9 : True := by
  w_top off
  trivial
end Mine
open PySem PySem.W PyProof.Rows PySem.Calls
set_option Elab.async false
set_option maxRecDepth 100000
set_option maxHeartbeats 8000000
set_option pp.maxSteps 400
set_option autoImplicit false
namespace Mine
local macro_rules | `(tactic| walk_at "call type:list cons nil") => `(tactic| (k_here; (with_reducible show wpAny _ _ (call (Value.type "list") [Value.str _ _]) _ _ _); (try rw [S_rev]); k_dflt (refine' list_strN (by exact rfl) (by k_asm) (by k_asm) (by first | assumption | (simp only [List.length_reverse]; omega)) ?_; k_whole; intro _ _ _ _ _ _ _ l1 _; (try k_lt l1); (try k_sweep))))
theorem mk_fin {own : List (Addr × Obj)} {L1 D d1 x1 c f d2 x2 l2 : Nat} {o : Obj} (h134 : 134 < L1) (hL : AllLt L1 own) (h1 : L1 + 1 < D) (h2 : D < d1) (h3 : d1 < x1) (h4 : x1 < c) (h6 : c < f) (h7 : f < d2) (h8 : d2 < x2) (h9 : x2 < l2) :
    ([x2, d2, l2, x1, d1, f, c, L1 + 1, D] : List Nat).Nodup ∧ OwnOff ((134, o) :: own) [x2, d2, l2, x1, d1, f, c, L1 + 1, D] := by
  have g0 : L1 < L1 + 1 := Nat.lt_succ_self L1
  have l01 := h1
  have l02 := Nat.lt_trans l01 h2
  have l03 := Nat.lt_trans l02 h3
  have l04 := Nat.lt_trans l03 h4
  have l05 := Nat.lt_trans l04 h6
  have l06 := Nat.lt_trans l05 h7
  have l07 := Nat.lt_trans l06 h8
  have l08 := Nat.lt_trans l07 h9
  have l12 := h2
  have l13 := Nat.lt_trans l12 h3
  have l14 := Nat.lt_trans l13 h4
  have l15 := Nat.lt_trans l14 h6
  have l16 := Nat.lt_trans l15 h7
  have l17 := Nat.lt_trans l16 h8
  have l18 := Nat.lt_trans l17 h9
  have l23 := h3
  have l24 := Nat.lt_trans l23 h4
  have l25 := Nat.lt_trans l24 h6
  have l26 := Nat.lt_trans l25 h7
  have l27 := Nat.lt_trans l26 h8
  have l28 := Nat.lt_trans l27 h9
  have l34 := h4
  have l35 := Nat.lt_trans l34 h6
  have l36 := Nat.lt_trans l35 h7
  have l37 := Nat.lt_trans l36 h8
  have l38 := Nat.lt_trans l37 h9
  have l45 := h6
  have l46 := Nat.lt_trans l45 h7
  have l47 := Nat.lt_trans l46 h8
  have l48 := Nat.lt_trans l47 h9
  have l56 := h7
  have l57 := Nat.lt_trans l56 h8
  have l58 := Nat.lt_trans l57 h9
  have l67 := h8
  have l68 := Nat.lt_trans l67 h9
  have l78 := h9
  constructor
  · simp only [List.nodup_cons, List.mem_cons, List.not_mem_nil, or_false, not_or, not_false_eq_true, List.nodup_nil, and_true]
    exact ⟨⟨Nat.ne_of_gt l67, Nat.ne_of_lt l78, Nat.ne_of_gt l37, Nat.ne_of_gt l27, Nat.ne_of_gt l57, Nat.ne_of_gt l47, Nat.ne_of_gt l07, Nat.ne_of_gt l17⟩, ⟨Nat.ne_of_lt l68, Nat.ne_of_gt l36, Nat.ne_of_gt l26, Nat.ne_of_gt l56, Nat.ne_of_gt l46, Nat.ne_of_gt l06, Nat.ne_of_gt l16⟩, ⟨Nat.ne_of_gt l38, Nat.ne_of_gt l28, Nat.ne_of_gt l58, Nat.ne_of_gt l48, Nat.ne_of_gt l08, Nat.ne_of_gt l18⟩, ⟨Nat.ne_of_gt l23, Nat.ne_of_lt l35, Nat.ne_of_lt l34, Nat.ne_of_gt l03, Nat.ne_of_gt l13⟩, ⟨Nat.ne_of_lt l25, Nat.ne_of_lt l24, Nat.ne_of_gt l02, Nat.ne_of_gt l12⟩, ⟨Nat.ne_of_gt l45, Nat.ne_of_gt l05, Nat.ne_of_gt l15⟩, ⟨Nat.ne_of_gt l04, Nat.ne_of_gt l14⟩, Nat.ne_of_lt l01⟩
  · have key : ∀ k : Nat, k < L1 → ∀ b ∈ ([x2, d2, l2, x1, d1, f, c, L1 + 1, D] : List Nat), k ≠ b := by
      intro k hk b hb
      have g : L1 + 1 ≤ b := by
        simp only [List.mem_cons, List.not_mem_nil, or_false] at hb
        rcases hb with rfl | rfl | rfl | rfl | rfl | rfl | rfl | rfl | rfl
        · exact Nat.le_of_lt l07
        · exact Nat.le_of_lt l06
        · exact Nat.le_of_lt l08
        · exact Nat.le_of_lt l03
        · exact Nat.le_of_lt l02
        · exact Nat.le_of_lt l05
        · exact Nat.le_of_lt l04
        · exact Nat.le_refl _
        · exact Nat.le_of_lt l01
      exact Nat.ne_of_lt (Nat.lt_of_lt_of_le (Nat.lt_trans hk g0) g)
    exact off_cons (key 134 h134) fun p hp b hb => key p.1 (PySem.W.kst_ltOf hL p hp) b hb
theorem relay {h₀ h : Heap} {L a1 a2 a3 a4 a5 a6 a7 a8 a9 a10 a11 : Addr} {o1 o2 o3 o4 o5 o6 o7 o8 o9 o10 o11 : Obj} {own : List (Addr × Obj)}
    (N : News h₀ L h ((a1, o1) :: (a2, o2) :: (a3, o3) :: (a4, o4) :: (a5, o5) :: (a6, o6) :: (a7, o7) :: (a8, o8) :: (a9, o9) :: (a10, o10) :: (a11, o11) :: own)) :
    News h₀ L h ([(a2, o2), (a3, o3), (a1, o1), (a7, o7), (a8, o8), (a4, o4), (a5, o5), (a10, o10), (a9, o9)] ++ (a11, o11) :: own) := fun p hp => N p (by
  dsimp only [List.cons_append, List.nil_append] at hp ⊢
  iterate 10 (rcases List.mem_cons.mp hp with rfl | hp; · (repeat first | exact List.Mem.head _ | refine List.Mem.tail _ ?_))
  (repeat first | exact hp | refine List.Mem.tail _ ?_))
theorem ct_mklex (w : World) (l : List Nat) (t : Tok) (own : List (Addr × Obj)) :
    Ct w 20 200 139 [.str (S l) t] ((134, tabObj #[]) :: own) (l.length ≤ 100000 ∧ OwnOff own [134])
      (fun r n' => ∃ (a : LexA) (u : Tok) (nq ny : Nat) (ys : List (PySem.Str × Tok)) (tb : Array Value), r = .ref a.x ∧ LexOk w a ∧ ys.map (·.1) = ones l.reverse ∧ OwnOff ((134, tabObj tb) :: own) a.adrs ∧
        n' = lexLed a 1 u [] nq ys ny ++ (134, tabObj tb) :: own) := by
  unfold Ct
  k_fill
  intro p loose mean mg mb dp un gd env outer A₀ base h₀ L m s Q E B F X N T hf hk hdp hun htk hx hret
  obtain ⟨hlen, hoff⟩ := hx
  refine codeAny_with_toks htk ?_
  k_dflt ktr_enter
  (with_reducible rename Frag.In _ _ => kX9)
  have C138 := codeHd_of_K (c := 138) (P := 134) kX9 (by rfl)
  k_steps
  rename_i kF9 kN9 kT9 kX9 htk9
  refine' hret _ _ _ _ kF9 (relay kN9) htk9 ⟨⟨_, _, _, _, _, _, _, _, _, ⟨_, _, _, _, 0, _, _, _, _, 0, _⟩, ⟨_, _, _, _, _, _, _, _, _, _, 0⟩, _, _, _, _, _, _, _⟩, _, _, _, _, _, rfl, ⟨?lam, ?so, ?nd, ⟨_, _, _, _, rfl⟩⟩, ?ys, ?off, rfl⟩
  case so => assumption
  case ys => assumption
  case nd => exact (mk_fin (o := tabObj #[]) (by with_reducible assumption) (by with_reducible assumption) (by (try dsimp only); omega) (by (try dsimp only); omega) (by (try dsimp only); omega) (by (try dsimp only); omega) (by (try dsimp only); omega) (by (try dsimp only); omega) (by (try dsimp only); omega) (by (try dsimp only); omega)).1
  case off => exact (mk_fin (by with_reducible assumption) (by with_reducible assumption) (by (try dsimp only); omega) (by (try dsimp only); omega) (by (try dsimp only); omega) (by (try dsimp only); omega) (by (try dsimp only); omega) (by (try dsimp only); omega) (by (try dsimp only); omega) (by (try dsimp only); omega)).2
  case lam => exact lam_gen w _ _ _ (by rfl) _ _ _ _ _ _ _ _ _ (by with_reducible assumption) (by with_reducible assumption)
end Mine
end SMkLex1
section SGetD1
namespace Mine
theorem fresh10 : True := by
  w_top off
  trivial
end Mine
open PySem PySem.W PyProof.Rows PySem.Calls
set_option Elab.async false
set_option maxRecDepth 100000
set_option maxHeartbeats 8000000
set_option pp.maxSteps 400
set_option autoImplicit false
namespace Mine
theorem lexTok_ws {c : Nat} (h : ws c = true) (l : List Nat) : lexTok (c :: l) = lexTok l := by
  rw [lexTok, if_pos h]
theorem lexTok_quot (l : List Nat) : lexTok (34 :: l) = runQ [] l := by
  rw [lexTok]; rfl
theorem lexTok_esc (l : List Nat) : lexTok (92 :: l) = runA ([] ++ l.take 1) (l.drop 1) := by
  rw [lexTok]; rfl
theorem lexTok_char {c : Nat} (h1 : ws c = false) (h2 : ¬ c = 34) (h3 : ¬ c = 92) (l : List Nat) : lexTok (c :: l) = runA ([] ++ [c]) l := by
  rw [lexTok, if_neg (by simp [h1]), if_neg h2, if_neg h3]; rfl
local macro_rules | `(tactic| walk_at "inplaceOp Add str str") => `(tactic| (k_here; k_dflt (refine' iaddS (by first | assumption | (dsimp only; omega)) (by first | assumption | (simp only [List.length_cons, List.length_nil, List.length_append, List.length_take] at *; omega)) ?_; k_whole; intro _ _ _)))
local macro_rules | `(tactic| walk_at "call ref") => `(tactic| (k_here; (try dsimp only [List.cons_append, List.nil_append]); (with_reducible show wpAny _ _ (call (Value.ref 52) [Value.ref _]) _ _ _); k_dflt
  (refine' ct_useA (N := by first | k_asm | k_dflt assumption) (ct_readC _ _ ?ok _ _ _ _ _ _ _ _ ?off ?hI ?hq _ _ ?hys ?hl) trivial ?_; (case ok => assumption); (case off => assumption); (case hI => assumption); (case hq => assumption); (case hys => assumption); (case hl => assumption); k_whole; intro _ _ _ _ _ N' _ hp9; obtain ⟨_, _, _, _, e1, _, e2⟩ := hp9; subst e1; subst e2; (simp only [ciLed, lexLed, List.cons_append, List.nil_append, Bool.false_eq_true, if_false] at N'); (try k_sweep))))
local macro_rules | `(tactic| walk_at "exec For Name Name cons nil") => `(tactic| (refine Mine.Hold.out ?_))
section
variable {w : World} {p : Program} {loose : List Str} {mean : ExcName → Option Value} {mg mb : Str → Option Value} {dp un : Nat} {gd : Option (List Code)} {outer : List Env} {A₀ : Around} {base h₀ : Heap} {L : Addr} {s : Shared} {E : Value → Shared → Prop}
  {a : LexA} {tS : Tok} {nq : Nat} {I q : Addr} {own : List (Addr × Obj)} {C : Int} {m : PySem.Str → Option Value}
theorem outer_F {fo fq fa : Stmt} {qn : PySem.Str} {sc : Scope} {cd : Value} {Q : Flow → Shared → Prop} {t u : Tok} {line : Int} {ys : List (PySem.Str × Tok)} {ny : Nat} (hlo : loopsOf (hd.heap_39 w.params) = some (qn, sc, cd, fo, fq, fa)) (ok : LexOk w a) (hoff : OwnOff own a.adrs) (hI : ∀ b ∈ a.adrs, I ≠ b) (hq : ∀ b ∈ a.adrs, q ≠ b) (hIq : I ≠ q) (hIo : ∀ x ∈ own, x.1 ≠ I)
    (B : Below A₀ base outer h₀) (F : Fr h₀ L s.heap m) (X : (hd.heap_39 w.params).In h₀) (N : News h₀ L s.heap (ciLed a I q tS false line u nq ys ny own)) (T : Top p loose mean mg mb h₀) (hdp : dp + 60 < recursionLimit) (hu : un + 600 < cLine) (ht : 1 ≤ s.toks)
    {l₀ : List Nat} (hlen : l₀.length ≤ 100000) (h1 : m ("token" : PySem.Str) = some (.str (S []) t)) (h2 : m ("self" : PySem.Str) = some (.ref a.x)) (h3 : m ("fiter" : PySem.Str) = some (.ref I)) (hys : ys.map (·.1) = ones l₀.reverse) (hC : line + (l₀.count 10 : Nat) = C)
    (hret : ∀ t s', CiSt a I q tS nq own h₀ L C false (lexTok l₀).2 (lexTok l₀).1 s s' → Q (.ret (.str (S (lexTok l₀).1) t)) s')
    (hend : ∀ s', (lexTok l₀).2 = [] → CiSt a I q tS nq own h₀ L C true [] (lexTok l₀).1 s s' → Q .next s') :
    wpAny (model PySem.Challenge.rw_rw0051_01.row.prog w) (cT dp un gd (envOf qn sc L 59 cd) outer) (exec fo (envOf qn sc L 59 cd)) Q E s := by
  revert hlo; k_fill; intro hlo
  have e : loopsOf (hd.heap_39 w.params) = some (_, _, _, _, _, _) := rfl
  rw [e] at hlo; cases hlo; clear e
  refine ci_for (Inv := fun l tok => tok = [] ∧ lexTok l = lexTok l₀) (InvO := fun tok => lexTok l₀ = (tok, [])) ok hoff hI hq hIq hIo B F X N T rfl (by omega) (by omega) ht rfl rfl hlen ⟨rfl, rfl⟩ h1 h2 h3 hys hC ?turn ?fin (fun v => rfl)
  case fin =>
    rintro tok s' (⟨rfl, hi⟩ | hi) hS
    · have : lexTok l₀ = ([], []) := hi.symm
      rw [this] at hend
      exact hend s' rfl hS
    · rw [hi] at hend
      exact hend s' rfl hS
  case turn =>
    intro c l tok tc h tk m₂ t ys ny u line hl hi htk F2 N2 hys hC E'
    clear F N
    obtain ⟨rfl, hi⟩ := hi
    dsimp only [gm] at F2
    simp only [ciLed, lexLed, List.cons_append, List.nil_append, Bool.false_eq_true, if_false] at N2
    k_steps
    · unfold Hold
      k_dflt (refine' inner_Q rfl (fun _ _ _ => ?_) (fun _ _ _ => ?_) (by k_asm) (by k_dflt assumption) (by assumption) (by assumption) (by assumption) (by assumption) (by assumption) (by assumption) (by k_asm) (by k_asm) (by k_asm) (by ktr_room) (by ktr_units) (by first | assumption | (dsimp only; omega)) (by exact rfl) (by exact rfl) (by exact rfl) (by assumption) (by first | assumption | exact cnt_drop (by assumption)) (by first | assumption | (simp only [List.length_drop]; omega)) (by (simp only [List.length_cons, List.length_nil, List.length_append, List.length_take, List.length_drop]; omega)))
      · try k_steps
        have hc := eq34 (by assumption)
        subst hc
        rw [lexTok_quot] at hi
        rw [← hi] at hret
        exact hret _ _ (by k_dflt assumption)
      · try k_steps
        have hc := eq34 (by assumption)
        subst hc
        rw [lexTok_quot] at hi
        exact .inr ⟨_, hi.symm.trans (Prod.ext rfl (by assumption)), by k_dflt assumption⟩
    · unfold Hold
      k_dflt (refine' inner_A rfl (fun _ _ _ => ?_) (fun _ _ _ => ?_) (by k_asm) (by k_dflt assumption) (by assumption) (by assumption) (by assumption) (by assumption) (by assumption) (by assumption) (by k_asm) (by k_asm) (by k_asm) (by ktr_room) (by ktr_units) (by first | assumption | (dsimp only; omega)) (by exact rfl) (by exact rfl) (by exact rfl) (by assumption) (by first | assumption | exact cnt_drop (by assumption)) (by first | assumption | (simp only [List.length_drop]; omega)) (by (simp only [List.length_cons, List.length_nil, List.length_append, List.length_take, List.length_drop]; omega)))
      · try k_steps
        have hc := eq92 (by assumption)
        subst hc
        rw [lexTok_esc] at hi
        rw [← hi] at hret
        exact hret _ _ (by k_dflt assumption)
      · try k_steps
        have hc := eq92 (by assumption)
        subst hc
        rw [lexTok_esc] at hi
        exact .inr ⟨_, hi.symm.trans (Prod.ext rfl (by assumption)), by k_dflt assumption⟩
    · unfold Hold
      k_dflt (refine' inner_A rfl (fun _ _ _ => ?_) (fun _ _ _ => ?_) (by k_asm) (by k_dflt assumption) (by assumption) (by assumption) (by assumption) (by assumption) (by assumption) (by assumption) (by k_asm) (by k_asm) (by k_asm) (by ktr_room) (by ktr_units) (by first | assumption | (dsimp only; omega)) (by exact rfl) (by exact rfl) (by exact rfl) (by assumption) (by first | assumption | exact cnt_drop (by assumption)) (by first | assumption | (simp only [List.length_drop]; omega)) (by (simp only [List.length_cons, List.length_nil, List.length_append, List.length_take, List.length_drop]; omega)))
      · try k_steps
        rw [lexTok_char (ws_no (by assumption)) (ne34 (by assumption)) (ne92 (by assumption))] at hi
        rw [← hi] at hret
        exact hret _ _ (by k_dflt assumption)
      · try k_steps
        rw [lexTok_char (ws_no (by assumption)) (ne34 (by assumption)) (ne92 (by assumption))] at hi
        exact .inr ⟨_, hi.symm.trans (Prod.ext rfl (by assumption)), by k_dflt assumption⟩
    · rw [lexTok_ws (ws_yes (by assumption))] at hi
      exact ci_end (Inv := fun l tok => tok = [] ∧ lexTok l = lexTok l₀) (InvO := fun tok => lexTok l₀ = (tok, [])) (Q := Q) F2 N2 (by assumption) (by rfl) (by rfl) (by rfl) hys hC (Nat.le_refl _) ⟨rfl, hi⟩
end
end Mine
end SGetD1
section SGet01
namespace Mine
theorem fresh11 : True := by
  w_top off
  trivial
end Mine
open PySem PySem.W PyProof.Rows PySem.Calls
set_option Elab.async false
set_option maxRecDepth 100000
set_option maxHeartbeats 8000000
set_option pp.maxSteps 400
set_option autoImplicit false
namespace Mine
local macro_rules | `(tactic| walk_at "call builtin:list.pop") => `(tactic| (k_here; (with_reducible show wpAny _ _ (call (Value.builtin _) [Value.ref _, Value.int _ _]) _ _ _); k_dflt (refine' kl_popAt (by k_asm) (by k_asm) (by decide) ?ki ?ke ?kU ?kz ?_; (case kU => k_upd); (case ki => simp [seqIndex?, strValues] <;> rfl); (case ke => exact cut_strs _ _ _); (case kz => simp [strValues, sizeLine_eq]; omega); k_whole; intro _ _ N'; (try dsimp only [List.nil_append] at N'); (try k_sweep))))
local macro_rules | `(tactic| walk_at "truthy ref") => `(tactic| (k_here; k_dflt (first
  | (refine' truthyN_cons ?kN ?km ?kz ?_; (case kN => k_asm); (case km => k_mem); (case kz => first | assumption | omega); k_whole)
  | (refine' truthyN_nil ?kN ?km ?_; (case kN => k_asm); (case km => k_mem); k_whole))))
/-- a waiting text is got -/
theorem ct_get (w : World) (a : LexA) (ok : LexOk w a) (line : Int) (u : Tok) (q : PySem.Str) (tq : Tok) (qs : List (PySem.Str × Tok)) (nq ny : Nat) (own : List (Addr × Obj)) (hoff : OwnOff own a.adrs) (ys : List (PySem.Str × Tok)) (hqs : qs.length ≤ 100000) :
    Ct w 20 200 59 [.ref a.x] (lexLed a line u ((q, tq) :: qs) nq ys ny ++ own) True
      (fun r n' => r = .str q tq ∧ n' = lexLed a line u qs (nq + 1) ys ny ++ own) := by
  unfold Ct
  k_fill
  intro p loose mean mg mb dp un gd env outer A₀ base h₀ L m s Q E B F X N T hf hk hdp hun htk hx hret
  obtain ⟨⟨_, _, _, _, _, _, _, _⟩, ⟨_, _, _, _, _, _, _, _⟩, _, _, _, _, _, _, _, _⟩ := nd9 ok.nd
  dsimp only [lexLed, List.cons_append, List.nil_append] at N
  refine codeAny_with_toks htk ?_
  k_dflt ktr_enter
  refine gentoks2 (Nat.le_trans htk (Nat.le_add_right _ _)) ?_
  intro tk htk1
  k_steps
  all_goals exact hret _ _ _ _ (by k_asm) (by k_asm) (by assumption) ⟨rfl, rfl⟩
end Mine
end SGet01
section SCnt1
namespace Mine
theorem fresh12 : True := by
  w_top off
  trivial
end Mine
open PySem PySem.W PyProof.Rows PySem.Calls
set_option Elab.async false
set_option maxRecDepth 100000
set_option maxHeartbeats 8000000
set_option pp.maxSteps 400
set_option autoImplicit false
namespace Mine
def inv1 (D n : Nat) (r : List Nat) (k : Nat) (m : PySem.Str → Option Value) : Prop :=
  ∃ (d : Nat) (t tw : Tok) (m₂ : PySem.Str → Option Value), m = (fun y => if y = ("dots" : PySem.Str) then some (.int (d : Int) t) else if y = ("word" : PySem.Str) then some (.str (S (wd D n r)) tw) else m₂ y) ∧ d ≤ D ∧ k = D - d
def inv2 (D n : Nat) (r : List Nat) (k : Nat) (m : PySem.Str → Option Value) : Prop :=
  ∃ (j : Nat) (t ta tr : Tok) (m₂ : PySem.Str → Option Value), m = (fun y => if y = ("dots" : PySem.Str) then some (.int (D : Int) t) else if y = ("amps" : PySem.Str) then some (.int ((j : Int) + 1) ta) else if y = ("rest" : PySem.Str) then some (.str (S (ampN (n - j) ++ r)) tr) else m₂ y) ∧ j ≤ n ∧ k = n - j ∧ (ampN (n - j) ++ r).length ≤ 100000
abbrev pairObj (a b : Int) (t u : Tok) : Obj := { cls := .type "tuple", data := .seq #[.int a t, .int b u] }
theorem dot_yes {D n d : Nat} {r : List Nat} (hb : (Txt.slice (S (wd D n r)) (some (d : Int)) (some ((d : Int) + 1)) == PySem.Str.ofString ".") = true) (h : d ≤ D) : d < D := by
  rw [dot_is _ _ _ _ h] at hb; simpa using hb
theorem dot_no {D n d : Nat} {r : List Nat} (hb : (Txt.slice (S (wd D n r)) (some (d : Int)) (some ((d : Int) + 1)) == PySem.Str.ofString ".") = false) (h : d ≤ D) : d = D := by
  rw [dot_is _ _ _ _ h] at hb
  have : ¬ d < D := by simpa using hb
  omega
theorem inv2_start {D n : Nat} {r : List Nat} {m : PySem.Str → Option Value} {t ta tr : Tok} (h1 : m ("dots" : PySem.Str) = some (.int (D : Int) t)) (h2 : m ("amps" : PySem.Str) = some (.int 1 ta)) (h3 : m ("rest" : PySem.Str) = some (.str (Txt.slice (S (wd D n r)) (some ((D : Int) + 1)) none) tr)) (hl : (wd D n r).length ≤ 100000) : inv2 D n r n m :=
  ⟨0, t, ta, tr, m, mp3 h1 h2 (by rw [h3, rest_is]; rfl), Nat.zero_le _, rfl, by simp [wd] at hl ⊢; omega⟩
theorem w_end {env : Env} {h₀ h' : Heap} {tk : Nat} {news : List (Addr × Obj)} {Inv : Nat → (PySem.Str → Option Value) → Prop} {s : Shared} {n k : Nat} {Q : Flow → Shared → Prop} {m' : PySem.Str → Option Value} (F : Fr h₀ env.locals h' m') (N : News h₀ env.locals h' news) (ht : 1 ≤ tk) (hlt : k < n) (hi : Inv k m') :
    WTurn env h₀ news Inv s n Q .next { s with heap := h', toks := tk } := ⟨k, hlt, h', tk, m', rfl, ht, hi, F, N⟩
theorem amp_yes {j : Nat} {r : List Nat} (hb : (Txt.slice (S (ampN j ++ r)) none (some 4) == PySem.Str.ofString "amp;") = true) (hr : r.take 4 ≠ [97, 109, 112, 59]) : 0 < j := by
  rw [amp_is _ _ hr] at hb; simpa using hb
theorem amp_no {j : Nat} {r : List Nat} (hb : (Txt.slice (S (ampN j ++ r)) none (some 4) == PySem.Str.ofString "amp;") = false) (hr : r.take 4 ≠ [97, 109, 112, 59]) : j = 0 := by
  rw [amp_is _ _ hr] at hb
  have : ¬ 0 < j := by simpa using hb
  omega
theorem inv1_step {D n d : Nat} {r : List Nat} {m : PySem.Str → Option Value} {t tw : Tok} (h1 : m ("dots" : PySem.Str) = some (.int ((d : Int) + 1) t)) (h2 : m ("word" : PySem.Str) = some (.str (S (wd D n r)) tw)) (h : d < D) : inv1 D n r (D - (d + 1)) m :=
  ⟨d + 1, t, tw, m, mp2 h1 h2, h, rfl⟩
theorem inv2_step {D n j : Nat} {r : List Nat} {m : PySem.Str → Option Value} {t ta tr : Tok} (h1 : m ("dots" : PySem.Str) = some (.int (D : Int) t)) (h2 : m ("amps" : PySem.Str) = some (.int ((j : Int) + 1 + 1) ta)) (h3 : m ("rest" : PySem.Str) = some (.str (Txt.slice (S (ampN (n - j) ++ r)) (some 4) none) tr)) (h : j < n) (hz : (ampN (n - j) ++ r).length ≤ 100000) : inv2 D n r (n - (j + 1)) m := by
  have e : n - j = (n - (j + 1)) + 1 := by omega
  rw [e] at h3 hz
  rw [amp_rest] at h3
  refine ⟨j + 1, t, ta, tr, m, mp3 h1 h2 h3, h, rfl, ?_⟩
  rw [ampN_succ] at hz
  simp at hz ⊢
  omega
local macro_rules | `(tactic| walk_at "exec While Compare") => `(tactic| (k_here; k_dflt (first
  | (refine' whileN (Inv := inv1 _ _ _) (by k_asm) (by k_asm) (by first | assumption | (dsimp only; omega)) (by refine' ⟨0, ?t, ?tw, ?m2, mp2 ?a1 ?a2, Nat.zero_le _, ?a3⟩; (case a1 => exact rfl); (case a2 => exact rfl); (case a3 => exact rfl)) (fun n9 h9 tk9 m9 htk9 hi9 F9 N9 E9 => ?_); k_whole; obtain ⟨_, _, _, _, e9, _, hk9⟩ := hi9; subst e9; subst hk9)
  | (have hD9 := dot_no (by assumption) (by assumption); subst hD9; refine' whileN (Inv := inv2 _ _ _) (by k_asm) (by k_asm) (by first | assumption | (dsimp only; omega)) (by refine' inv2_start ?a1 ?a2 ?a3 ?a4; (case a1 => exact rfl); (case a2 => exact rfl); (case a3 => exact rfl); (case a4 => assumption)) (fun n9 h9 tk9 m9 htk9 hi9 F9 N9 E9 => ?_); k_whole; obtain ⟨_, _, _, _, _, e9, _, hk9, _⟩ := hi9; subst e9; subst hk9))))
theorem ct_counts (w : World) (D n : Nat) (r : List Nat) (t : Tok) (hr : r.take 4 ≠ [97, 109, 112, 59]) (hl : (wd D n r).length ≤ 100000) (own : List (Addr × Obj)) :
    Ct w 20 200 170 [.str (S (wd D n r)) t] own True (fun v n' => ∃ T t u, v = .ref T ∧ n' = (T, pairObj D (n + 1) t u) :: own) := by
  unfold Ct
  k_fill
  intro p loose mean mg mb dp un gd env outer A₀ base h₀ L m s Q E B F X N T hf hk hdp hun htk hx hret
  refine codeAny_with_toks htk ?_
  k_dflt ktr_enter
  refine gentoks2 (Nat.le_trans htk (Nat.le_add_right _ _)) ?_
  intro tk htk1
  k_steps
  · have h := dot_yes (by assumption) (by assumption)
    refine' w_end ?F ?N ?t ?l (inv1_step ?a1 ?a2 h)
    case F => k_asm
    case N => k_asm
    case t => assumption
    case a1 => exact rfl
    case a2 => exact rfl
    case l => omega
  · have h := amp_yes (by assumption) hr
    refine' w_end ?F ?N ?t ?l (inv2_step ?a1 ?a2 ?a3 (Nat.lt_of_sub_pos h) (by assumption))
    case F => k_asm
    case N => k_asm
    case t => assumption
    case a1 => exact rfl
    case a2 => exact rfl
    case a3 => exact rfl
    case l => omega
  · have h := amp_no (by assumption) hr
    have e := Nat.le_antisymm (Nat.le_of_sub_eq_zero h) (by assumption)
    subst e
    exact hret _ _ _ _ (by k_asm) (by k_asm) (by assumption) ⟨_, _, _, rfl, rfl⟩
end Mine
end SCnt1
section SGetE1
local macro_rules | `(tactic| walk_at "z") => `(tactic| skip)
local macro_rules | `(tactic| walk_at "z") => `(tactic| skip)
namespace Mine
theorem fresh13 : True := by
  w_top off
  trivial
end Mine
open PySem PySem.W PyProof.Rows PySem.Calls
set_option Elab.async false
set_option maxRecDepth 100000
set_option maxHeartbeats 8000000
set_option pp.maxSteps 400
set_option autoImplicit false
namespace Mine
section
variable {w : World} {p : Program} {loose : List Str} {mean : ExcName → Option Value} {mg mb : Str → Option Value} {dp un : Nat} {gd : Option (List Code)} {outer : List Env} {A₀ : Around} {base h₀ : Heap} {L : Addr} {s : Shared} {E : Value → Shared → Prop}
  {a : LexA} {tS : Tok} {nq : Nat} {I q : Addr} {own : List (Addr × Obj)} {m : PySem.Str → Option Value}
theorem outer_F2 {fo fq fa : Stmt} {qn : PySem.Str} {sc : Scope} {cd : Value} {Q : Flow → Shared → Prop} {t u : Tok} {line : Int} {ys : List (PySem.Str × Tok)} {ny : Nat} {l₀ : List Nat} (hlo : loopsOf (hd.heap_39 w.params) = some (qn, sc, cd, fo, fq, fa))
    (F : Fr h₀ L s.heap m) (N : News h₀ L s.heap ((I, ciObj (.ref q) (.str (S []) tS) false) :: (q, methodObj (.ref 52) (.ref a.x)) :: (a.x, instObj 69 a.dx) :: (a.dx, lexDict a.d line u (.ref a.tape) a.pb) :: (a.pb, listOf (strValues []).toArray nq) :: (a.tape, instObj 69 a.dt) :: (a.dt, tapeDict a.e a.v1 a.v2 a.v3 a.v4 a.lam) :: (a.lam, a.LO) :: (a.cc, a.CO) :: (a.cell, a.SO) :: (a.sg, listOf (strValues ys).toArray ny) :: own))
    (ok : LexOk w a) (hoff : OwnOff own a.adrs) (hI : ∀ b ∈ a.adrs, I ≠ b) (hq : ∀ b ∈ a.adrs, q ≠ b) (hIq : I ≠ q) (hIo : ∀ x ∈ own, x.1 ≠ I)
    (B : Below A₀ base outer h₀) (X : (hd.heap_39 w.params).In h₀) (T : Top p loose mean mg mb h₀) (hdp : dp + 60 < recursionLimit) (hu : un + 600 < cLine) (ht : 1 ≤ s.toks)
    (hlen : l₀.length ≤ 100000) (h1 : m ("token" : PySem.Str) = some (.str (S []) t)) (h2 : m ("self" : PySem.Str) = some (.ref a.x)) (h3 : m ("fiter" : PySem.Str) = some (.ref I)) (hys : ys.map (·.1) = ones l₀.reverse)
    (hret : ∀ (h' : Heap) (tk : Nat) (m' : PySem.Str → Option Value) (t9 : Tok) (ys9 : List (PySem.Str × Tok)) (ny9 : Nat) (u9 : Tok) (line9 : Int) (oI : Obj), 1 ≤ tk → Fr h₀ L h' (fun y => if y = ("token" : PySem.Str) then some (.str (S (lexTok l₀).1) t9) else if y = ("self" : PySem.Str) then some (.ref a.x) else if y = ("fiter" : PySem.Str) then some (.ref I) else m' y) →
      News h₀ L h' ((I, oI) :: (q, methodObj (.ref 52) (.ref a.x)) :: (a.x, instObj 69 a.dx) :: (a.dx, lexDict a.d line9 u9 (.ref a.tape) a.pb) :: (a.pb, listOf (strValues []).toArray nq) :: (a.tape, instObj 69 a.dt) :: (a.dt, tapeDict a.e a.v1 a.v2 a.v3 a.v4 a.lam) :: (a.lam, a.LO) :: (a.cc, a.CO) :: (a.cell, a.SO) :: (a.sg, listOf (strValues ys9).toArray ny9) :: own) →
      ys9.map (·.1) = ones (lexTok l₀).2.reverse → line9 + ((lexTok l₀).2.count 10 : Nat) = line + (l₀.count 10 : Nat) →
        (∀ t, Q (.ret (.str (S (lexTok l₀).1) t)) { s with heap := h', toks := tk }) ∧ Q .next { s with heap := h', toks := tk }) :
    wpAny (model PySem.Challenge.rw_rw0051_01.row.prog w) (cT dp un gd (envOf qn sc L 59 cd) outer) (exec fo (envOf qn sc L 59 cd)) Q E s := by
  refine outer_F (C := line + (l₀.count 10 : Nat)) hlo ok hoff hI hq hIq hIo B F X (line := line) (u := u) (ys := ys) (ny := ny) (tS := tS) (by k_dflt assumption) T hdp hu ht hlen h1 h2 h3 hys rfl (fun t s' hS => ?_) fun s' hz hS => ?_
  · obtain ⟨h9, tk9, m9, t9, ys9, ny9, u9, line9, e9, htk9, F9, N9, hys9, hC9⟩ := hS
    subst e9
    exact (hret h9 tk9 m9 t9 ys9 ny9 u9 line9 _ htk9 F9 N9 hys9 hC9).1 t
  · obtain ⟨h9, tk9, m9, t9, ys9, ny9, u9, line9, e9, htk9, F9, N9, hys9, hC9⟩ := hS
    subst e9
    rw [← hz] at hys9 hC9
    exact (hret h9 tk9 m9 t9 ys9 ny9 u9 line9 _ htk9 F9 N9 hys9 hC9).2
theorem iterN {prog : Program} {A : Around} {news : List (Addr × Obj)} {Q : Value → Shared → Prop} {g snt v : Value} (F : Fr h₀ L s.heap m) (N : News h₀ L s.heap news) (hm : (q, methodObj g snt) ∈ news)
    (h : ∀ I h', Fr h₀ L h' m → News h₀ L h' ((I, ciObj (.ref q) v false) :: news) → (∀ p ∈ news, p.1 < I) → Q (.ref I) { s with heap := h' }) :
    wpAny (model prog w) A (call (.builtin "iter") [.ref q, v]) Q E s :=
  iter2 (o := ciObj v v false) (N _ hm).1 (h _ _ (F.push _) (News.push F N _) fun p hp => Heap.lt_size (N p hp).1)
end
local macro_rules | `(tactic| walk_at "truthy ref") => `(tactic| (k_here; k_dflt (refine' truthyN_nil (by k_asm) (by k_mem) ?_; k_whole)))
local macro_rules | `(tactic| walk_at "call builtin:iter") => `(tactic| (refine Mine.Hold.out ?_))
theorem ct_getE (w : World) (a : LexA) (ok : LexOk w a) (line : Int) (u : Tok) (nq ny : Nat) (own : List (Addr × Obj)) (hoff : OwnOff own a.adrs) (l : List Nat) (ys : List (PySem.Str × Tok)) (hys : ys.map (·.1) = ones l.reverse) (hl : l.length ≤ 100000) :
    Ct w 100 800 59 [.ref a.x] (lexLed a line u [] nq ys ny ++ own) True
      (fun r n' => ∃ t' u' ny' ys' line', r = .str (S (lexTok l).1) t' ∧ ys'.map (·.1) = ones (lexTok l).2.reverse ∧ line' + ((lexTok l).2.count 10 : Nat) = line + (l.count 10 : Nat) ∧ n' = lexLed a line' u' [] nq ys' ny' ++ own) := by
  unfold Ct
  k_fill
  intro p loose mean mg mb dp un gd env outer A₀ base h₀ L m s Q E B F X N T hf hk hdp hun htk hx hret
  obtain ⟨⟨_, _, _, _, _, _, _, _⟩, ⟨_, _, _, _, _, _, _, _⟩, _, _, _, _, _, _, _, _⟩ := nd9 ok.nd
  dsimp only [lexLed, List.cons_append, List.nil_append] at N
  refine codeAny_with_toks htk ?_
  k_dflt ktr_enter
  refine gentoks2 (Nat.le_trans htk (Nat.le_add_right _ _)) ?_
  intro tk htk1
  k_steps
  unfold Hold
  (try dsimp only [List.cons_append, List.nil_append])
  k_dflt (refine' iterN (by k_asm) (by k_asm) (by k_mem) ?_; k_whole; intro _ _ _ _ l1; (try k_lt l1); (try k_sweep))
  k_steps
  refine' outer_F2 (l₀ := l) rfl ?F ?N ok hoff ?hI ?hq ?hIq ?hIo ?B ?X ?T ?hdp ?hu ?ht hl ?h1 ?h2 ?h3 hys ?k
  case F => k_asm
  case N => k_dflt assumption
  case hI => (intro b hb; simp only [LexA.adrs, List.mem_cons, List.not_mem_nil, or_false] at hb; rcases hb with rfl | rfl | rfl | rfl | rfl | rfl | rfl | rfl | rfl <;> exact Nat.ne_of_gt (by with_reducible assumption))
  case hq => (intro b hb; simp only [LexA.adrs, List.mem_cons, List.not_mem_nil, or_false] at hb; rcases hb with rfl | rfl | rfl | rfl | rfl | rfl | rfl | rfl | rfl <;> exact Nat.ne_of_gt (by with_reducible assumption))
  case hIq => exact Nat.ne_of_gt (by with_reducible assumption)
  case hIo => exact fun x hx => Nat.ne_of_lt (PySem.W.kst_ltOf (by with_reducible assumption) x hx)
  case B => k_asm
  case X => k_asm
  case T => k_asm
  case hdp => ktr_room
  case hu => ktr_units
  case ht => first | assumption | (dsimp only; omega)
  case h1 => exact rfl
  case h2 => exact rfl
  case h3 => exact rfl
  case k =>
    intro h9 tk9 m9 t9 ys9 ny9 u9 line9 oI htk9 F9 N9 hys9 hC9
    refine ⟨fun t => ?_, ?_⟩
    all_goals (try dsimp only)
    all_goals k_steps
    all_goals exact hret _ _ _ (lexLed a line9 u9 [] nq ys9 ny9 ++ own) (by k_asm) (fun x hx => (show News _ _ _ (_ :: _ :: _) by k_asm) x (.tail _ (.tail _ hx))) (by assumption) ⟨_, u9, ny9, ys9, line9, rfl, hys9, hC9, rfl⟩
end Mine
end SGetE1
section SDrs1
namespace Mine
theorem fresh14 : True := by
  w_top off
  trivial
end Mine
open PySem PySem.W PyProof.Rows PySem.Calls
set_option Elab.async false
set_option maxRecDepth 100000
set_option maxHeartbeats 8000000
set_option pp.maxSteps 400
set_option autoImplicit false
namespace Mine
/-- a word as it is written in the text -/
def dressQ (l : List Nat) : List Nat := (l.map fun c => if c = 34 ∨ c = 92 then [92, c] else [c]).flatten
def dressB (l : List Nat) : List Nat := (l.map fun c => [92, c]).flatten
theorem of_qb : PySem.Str.ofString "\"\\" = S [34, 92] := by decide +kernel
theorem of_bs2 : PySem.Str.ofString "\\" = S [92] := by decide +kernel
theorem qb_is (c : Nat) : (Builtin.Str.occurrences (PySem.Str.ofString "\"\\") (S [c]) 0 (PySem.Str.ofString "\"\\").length 1).isEmpty = !decide (c = 34 ∨ c = 92) := by
  have h := in_S c [34, 92]
  rw [← of_qb] at h
  rw [← Bool.not_not (List.isEmpty _), h]
  simp
theorem qb_no {c : Nat} (h : (Builtin.Str.occurrences (PySem.Str.ofString "\"\\") (S [c]) 0 (PySem.Str.ofString "\"\\").length 1).isEmpty = true) : S [c] = S (if c = 34 ∨ c = 92 then [92, c] else [c]) := by
  rw [qb_is] at h
  have : ¬ (c = 34 ∨ c = 92) := by simpa using h
  rw [if_neg this]
theorem qb_yes {c : Nat} (h : (Builtin.Str.occurrences (PySem.Str.ofString "\"\\") (S [c]) 0 (PySem.Str.ofString "\"\\").length 1).isEmpty = false) : PySem.Str.ofString "\\" ++ S [c] = S (if c = 34 ∨ c = 92 then [92, c] else [c]) := by
  rw [qb_is] at h
  have : (c = 34 ∨ c = 92) := of_decide_eq_true (by cases hd : decide (c = 34 ∨ c = 92) <;> simp_all)
  rw [if_pos this, of_bs2, S_append]; rfl
theorem txtOut_of {r : List Nat} {x : PySem.Str} {s₀ : Shared} {h : Heap} {t : Tok} {tk : Nat} (e : x = S r) : TxtOut r s₀ h (.str x t) { s₀ with heap := h, toks := tk } := ⟨t, tk, by rw [e], rfl⟩
theorem addS {prog : Program} {w : World} {A : Around} {s : Shared} {Q : Value → Shared → Prop} {E : Value → Shared → Prop} {x y : List Nat} {t u : Tok} (hsz : x.length + y.length ≤ 2000000) (h : ∀ t' k, Q (.str (S (x ++ y)) t') { s with toks := k }) : wpAny (model prog w) A (binaryOp .Add (.str (S x) t) (.str (S y) u)) Q E s :=
  PyProof.Rows.add_str (fun t' k => by rw [S_append]; exact h t' k) (by rw [S_len, S_len, sizeLine_eq]; omega)
theorem dress_len (l : List Nat) (f : Nat → List Nat) (hf : ∀ c, (f c).length ≤ 2) (hl : l.length ≤ 30000) : (l.map f).flatten.length ≤ 1000000 := by
  have : (l.map f).flatten.length ≤ 2 * l.length := by
    clear hl
    induction l with
    | nil => simp
    | cons c l ih =>
      simp only [List.map_cons, List.flatten_cons, List.length_append, List.length_cons]
      have := hf c
      omega
  omega
local macro_rules | `(tactic| walk_at "eval ListComp") => `(tactic| (k_here; k_dflt (refine comp_str (by k_asm) (by with_unfolding_all rfl) (by decide) (by rfl) (by decide) (by rfl) (fun _ => rfl) ?_)))
theorem ct_dressed0 (w : World) (l : List Nat) (mn : Int) (t u : Tok) (hmn : mn = 0) (hl : l.length ≤ 30000) (own : List (Addr × Obj)) :
    Ct w 20 200 163 [.str (S l) t, .int mn u] own True (fun v n' => ∃ t, v = .str (S ([34] ++ dressQ l ++ [34])) t ∧ n' = own) := by
  subst hmn
  unfold Ct
  k_fill
  intro p loose mean mg mb dp un gd env outer A₀ base h₀ L m s Q E B F X N T hf hk hdp hun htk hx hret
  refine codeAny_with_toks htk ?_
  k_dflt ktr_enter
  refine gentoks2 (Nat.le_trans htk (Nat.le_add_right _ _)) ?_
  intro tk htk1
  k_steps
  refine ⟨_, l, own, rfl, rfl, by k_asm, by k_asm, by rw [sizeLine_eq]; omega, fun s₂ hs₂ => ?_⟩
  obtain ⟨g, e⟩ := hs₂
  subst e
  refine rest_map (fun c => if c = 34 ∨ c = 92 then [92, c] else [c]) (fun c u I oI C oC D m₂ ys h tk E' hO hm F N => ?_) (fun ys hys D h tk F N off => ?_)
  · k_steps
    · exact txtOut_of (qb_no (by assumption))
    · exact txtOut_of (qb_yes (by assumption))
  · dsimp only
    k_steps
    refine' joinM (ls := l.map fun c => if c = 34 ∨ c = 92 then [92, c] else [c]) ?N (.head _) (by rw [hys, List.map_map]; rfl) ?z (fun t9 k9 => ?_)
    case N => k_asm
    case z => exact dress_len _ _ (fun c => by split <;> simp) (by omega)
    rw [of_quot]
    refine addS (by simp only [List.length_cons, List.length_nil]; have := dress_len l (fun c => if c = 34 ∨ c = 92 then [92, c] else [c]) (fun c => by split <;> simp) hl; omega) (fun t8 k8 => ?_)
    k_steps
    refine addS (by simp only [List.length_cons, List.length_nil, List.length_append]; have := dress_len l (fun c => if c = 34 ∨ c = 92 then [92, c] else [c]) (fun c => by split <;> simp) hl; omega) (fun t8 k8 => ?_)
    k_steps
    all_goals exact hret _ _ _ _ (by k_asm) (cb_drop (by k_asm) fun x hx => .tail _ hx) (by assumption) ⟨_, rfl, rfl⟩
theorem ct_dressed1 (w : World) (l : List Nat) (mn : Int) (t u : Tok) (hmn : ¬ mn = 0) (hl : l.length ≤ 30000) (own : List (Addr × Obj)) :
    Ct w 20 200 163 [.str (S l) t, .int mn u] own True (fun v n' => ∃ t, v = .str (S (dressB l)) t ∧ n' = own) := by
  unfold Ct
  k_fill
  intro p loose mean mg mb dp un gd env outer A₀ base h₀ L m s Q E B F X N T hf hk hdp hun htk hx hret
  refine codeAny_with_toks htk ?_
  k_dflt ktr_enter
  refine gentoks2 (Nat.le_trans htk (Nat.le_add_right _ _)) ?_
  intro tk htk1
  k_steps
  · exfalso
    exact hmn (by assumption)
  refine ⟨_, l, own, rfl, rfl, by k_asm, by k_asm, by rw [sizeLine_eq]; omega, fun s₂ hs₂ => ?_⟩
  obtain ⟨g, e⟩ := hs₂
  subst e
  refine rest_map (fun c => [92, c]) (fun c u I oI C oC D m₂ ys h tk E' hO hm F N => ?_) (fun ys hys D h tk F N off => ?_)
  · k_steps
    all_goals exact txtOut_of (by rw [of_bs2, S_append]; rfl)
  · dsimp only
    k_steps
    refine' joinM (ls := l.map fun c => [92, c]) ?N (.head _) (by rw [hys, List.map_map]; rfl) ?z (fun t9 k9 => ?_)
    case N => k_asm
    case z => exact dress_len _ _ (fun c => by simp) (by omega)
    k_steps
    all_goals exact hret _ _ _ _ (by k_asm) (cb_drop (by k_asm) fun x hx => .tail _ hx) (by assumption) ⟨_, rfl, rfl⟩
end Mine
end SDrs1
section SLxP1
open PySem PySem.W PyProof.Rows PySem.Calls
set_option Elab.async false
set_option maxRecDepth 100000
set_option maxHeartbeats 8000000
set_option pp.maxSteps 400
set_option autoImplicit false
namespace Mine
theorem runQ_end2 (tok r : List Nat) : runQ tok (34 :: r) = (tok, r) := by unfold runQ; simp
theorem runQ_esc2 (tok r : List Nat) (c : Nat) : runQ tok (92 :: c :: r) = runQ (tok ++ [c]) r := by conv => lhs; unfold runQ; simp
theorem runQ_more2 (tok r : List Nat) (c : Nat) (h1 : c ≠ 34) (h2 : c ≠ 92) : runQ tok (c :: r) = runQ (tok ++ [c]) r := by conv => lhs; unfold runQ; simp [h1, h2]
theorem runA_end2 (tok r : List Nat) (c : Nat) (h : ws c = true) : runA tok (c :: r) = (tok, r) := by unfold runA; simp [h]
theorem runA_esc2 (tok r : List Nat) (c : Nat) : runA tok (92 :: c :: r) = runA (tok ++ [c]) r := by conv => lhs; unfold runA; simp [ws]
/-- reading in quotation marks what was written so -/
theorem runQ_dress : ∀ (l tok r : List Nat), runQ tok (dressQ l ++ 34 :: r) = (tok ++ l, r)
  | [], tok, r => by show runQ tok (34 :: r) = _; rw [runQ_end2]; simp
  | c :: l, tok, r => by
    have ih := runQ_dress l (tok ++ [c]) r
    have e : dressQ (c :: l) = (if c = 34 ∨ c = 92 then [92, c] else [c]) ++ dressQ l := by simp [dressQ]
    rw [e]
    by_cases h : c = 34 ∨ c = 92
    · rw [if_pos h]
      show runQ tok (92 :: c :: (dressQ l ++ 34 :: r)) = _
      rw [runQ_esc2, ih]; simp
    · rw [if_neg h]
      show runQ tok (c :: (dressQ l ++ 34 :: r)) = _
      rw [runQ_more2 _ _ _ (fun e => h (.inl e)) (fun e => h (.inr e)), ih]; simp
/-- reading what was written with a backslash ahead of each sign -/
theorem runA_dress (w : Nat) (hw : ws w = true) (hw2 : w ≠ 92) : ∀ (l tok r : List Nat), runA tok (dressB l ++ w :: r) = (tok ++ l, r)
  | [], tok, r => by
    show runA tok (w :: r) = _
    rw [runA_end2 _ _ _ hw]; simp
  | c :: l, tok, r => by
    have ih := runA_dress w hw hw2 l (tok ++ [c]) r
    show runA tok (92 :: c :: (dressB l ++ w :: r)) = _
    rw [runA_esc2, ih]; simp
theorem lex_Q (l r : List Nat) : lexTok (34 :: (dressQ l ++ 34 :: r)) = (l, r) := by
  rw [lexTok, if_neg (by decide), if_pos rfl, runQ_dress]; rfl
theorem lex_B (w : Nat) (hw : ws w = true) (hw2 : w ≠ 92) (c : Nat) (l r : List Nat) : lexTok (dressB (c :: l) ++ w :: r) = (c :: l, r) := by
  show lexTok (92 :: c :: (dressB l ++ w :: r)) = _
  rw [lexTok, if_neg (by decide), if_neg (by decide), if_pos rfl]
  show runA [c] (dressB l ++ w :: r) = _
  rw [runA_dress w hw hw2]; rfl
theorem lex_ws (w : Nat) (hw : ws w = true) (r : List Nat) : lexTok (w :: r) = lexTok r := by rw [lexTok, if_pos hw]
/-- a word as the law writes it, and the sign behind it -/
def dressed (l : List Nat) (manner : Nat) (w : Nat) : List Nat := (if manner = 0 then [34] ++ dressQ l ++ [34] else dressB l) ++ [w]
/-- two words are read back -/
theorem lex_two (a b : List Nat) (ma mb w : Nat) (ha : a ≠ []) (hb : b ≠ []) (hw : ws w = true) (hw2 : w ≠ 92) :
    (lexTok (dressed a ma w ++ dressed b mb w)).1 = a ∧ (lexTok (lexTok (dressed a ma w ++ dressed b mb w)).2).1 = b ∧ (lexTok (lexTok (lexTok (dressed a ma w ++ dressed b mb w)).2).2) = ([], []) := by
  have one : ∀ (l : List Nat) (m : Nat) (r : List Nat), l ≠ [] → ∃ r', lexTok (dressed l m w ++ r) = (l, r') ∧ lexTok r' = lexTok r := by
    intro l m r hl
    unfold dressed
    by_cases hm : m = 0
    · rw [if_pos hm]
      refine ⟨w :: r, ?_, lex_ws w hw r⟩
      have := lex_Q l (w :: r)
      simpa using this
    · rw [if_neg hm]
      refine ⟨r, ?_, rfl⟩
      cases l with
      | nil => exact absurd rfl hl
      | cons c l =>
        have := lex_B w hw hw2 c l r
        simpa using this
  obtain ⟨r1, e1, f1⟩ := one a ma (dressed b mb w) ha
  obtain ⟨r2, e2, f2⟩ := one b mb [] hb
  rw [List.append_nil] at e2
  rw [e1]
  dsimp only
  rw [f1, e2]
  dsimp only
  rw [f2]
  exact ⟨rfl, rfl, by rw [lexTok]⟩
end Mine
end SLxP1
section WalkC
local macro_rules | `(tactic| walk_at "eval ListComp") => `(tactic| (k_here; (with_reducible refine' Mine.comp_w ?F (by with_unfolding_all rfl) (by decide) (by k_dflt rfl) (by decide) (by k_dflt rfl) (by k_dflt exact fun _ => rfl) ?_); (case F => k_asm)))
local macro_rules | `(tactic| walk_at "exec Assign cons ListComp") => `(tactic| (k_here; (with_reducible refine' Mine.comp_wA ?F ?L ?w ?c ?d ?k ?n ?x ?y ?p ?s ?_); (case F => k_asm); k_dflt ((case L => rfl); (case w => with_unfolding_all rfl); (case c => with_unfolding_all rfl); (case d => decide); (case k => rfl); (case n => decide); (case x => rfl); (case y => rfl); (case p => rfl); (case s => exact fun _ => rfl))))
local macro_rules | `(tactic| walk_at "eval Name") => `(tactic| (k_here; k_dflt (refine' nameX_F (by k_asm) (by exact rfl) (by k_mem) (by assumption) ?_ (by rfl) (by rfl); k_whole)))
local macro_rules | `(tactic| walk_at "exec For") => `(tactic| (k_here; k_dflt (refine Mine.forW (by k_asm) (fun _ => rfl) ?_)))
section SWd1
namespace Mine
theorem fresh15 : True := by
  w_top off
  trivial
end Mine
open PySem PySem.W PyProof.Rows PySem.Calls
set_option Elab.async false
set_option maxRecDepth 100000
set_option maxHeartbeats 8000000
set_option pp.maxSteps 400
set_option autoImplicit false
namespace Mine
local macro_rules | `(tactic| walk_at "compareOp In str ref") => `(tactic| (k_here; k_dflt (first
  | (refine' names_in (by k_asm) (by k_mem) (by assumption) (by assumption) false (by (rename nameAt _ _ = none => hq9; rw [hq9]; rfl)) ?_; k_whole)
  | (refine' names_in (by k_asm) (by k_mem) (by assumption) (by assumption) true (by (rename nameAt _ _ = some _ => hq9; rw [hq9]; rfl)) ?_; k_whole))))
local macro_rules | `(tactic| walk_at "subscriptTail") => `(tactic| (k_here; (with_reducible show wpAny _ _ (subscriptTail _ _ (Value.ref _) (Value.str _ _)) _ _ _); k_dflt (refine' names_item (by k_asm) (by k_mem) (by assumption) (by assumption) ?_; k_whole; intro _)))
theorem ct_word (w : World) (D A wr : Nat) (AL ND : Addr) (xs : List (PySem.Str × Tok)) (cs : List Nat) (c : Nat) (o : Obj) (tab : List (PySem.Str × PySem.Str)) (t1 t2 t3 : Tok) (hA : 1 ≤ A) (hD2 : D ≤ 10000) (hA2 : A ≤ 10000) (hw2 : wr ≤ 10000) (hcs : cs.length ≤ 3) (hxs : xs.map (·.1) = ones cs) (ht : ∀ c x, nameAt tab (S [c]) = some x → x.length ≤ 10)
    (lo : (ND == sysModules) = false) (hn : NamesOf PySem.Challenge.rw_rw0051_01.row.prog w o tab) (own : List (Addr × Obj)) :
    Ct w 20 200 158 [.int (D : Int) t1, .int (A : Int) t2, .ref AL, .int (wr : Int) t3, .ref ND] ((AL, listOf (strValues xs).toArray c) :: (ND, o) :: own) True
      (fun v n' => ∃ t, v = .str (S (wordOf D A cs tab wr)) t ∧ n' = (AL, listOf (strValues xs).toArray c) :: (ND, o) :: own) := by
  unfold Ct
  k_fill
  intro p loose mean mg mb dp un gd env outer A₀ base h₀ L m s Q E B F X N T hf hk hdp hun htk hx hret
  refine codeAny_with_toks htk ?_
  k_dflt ktr_enter
  with_reducible refine gentoks2 ?hX ?_
  case hX => with_reducible exact Nat.le_trans htk (Nat.le_add_right _ _)
  intro tk htk1
  k_steps
  refine' forAt_listK (fun i m' => wInv (wd D (A - 1) ((cs.take i).flatMap (spell tab wr))) wr ND m') ?hh ?F ?N ?hm ?ht ?hj ?turn ?done
  case hh => exact rfl
  case F => k_asm
  case N => k_asm
  case hm => k_mem
  case ht => first | assumption | (dsimp only; omega)
  case hj => exact wInv.of (by exact rfl) (by exact rfl) (by exact rfl) (by rw [word_start D A hA]; rfl)
  case turn =>
    intro I oI i v m₁ h tk E' hI hv hJ htk F N
    obtain ⟨ch, u, hc, rfl⟩ := strs_at hxs hv
    have hlen := spells_len ht wr (cs.take i)
    have hl1 := spell_len ht wr ch
    have htake : (cs.take (i + 1)).flatMap (spell tab wr) = (cs.take i).flatMap (spell tab wr) ++ spell tab wr ch := by
      rw [List.take_add_one, hc, List.flatMap_append]; simp
    have hsz : (wd D (A - 1) ((cs.take i).flatMap (spell tab wr))).length ≤ 1000000 := by
      rw [wd_len]
      have : (cs.take i).length ≤ 3 := by rw [List.length_take]; omega
      have := Nat.mul_le_mul_left (4 * wr + 20) this
      omega
    generalize (cs.take i).flatMap (spell tab wr) = pre at *
    obtain ⟨t4, t5, m₂, rfl⟩ := hJ
    refine wpAny_assign_Name ?_
    rw [htake]
    cases hna : nameAt tab (S [ch]) with
    | none =>
      k_steps
      all_goals exact KTurn.intro (by k_asm) (by k_asm) (by assumption) (fun _ h => h) (wInv.of (by exact rfl) (by exact rfl) (by exact rfl) (w_plain (spell_none hna wr)))
    | some x =>
      have hxl := ht ch x hna
      k_steps
      all_goals first
        | (rw [amp_text hna (by omega)]
           refine PyProof.Rows.iadd_str (fun t8 k8 => ?_) (by rw [S_len, S_len, sizeLine_eq]; omega)
           k_steps
           exact KTurn.intro (by k_asm) (by k_asm) (by assumption) (fun _ h => h) (wInv.of (by exact rfl) (by exact rfl) (by exact rfl) w_more))
        | (have hw0 : wr = 0 := by omega
           subst hw0
           exact KTurn.intro (by k_asm) (by k_asm) (by assumption) (fun _ h => h) (wInv.of (by exact rfl) (by exact rfl) (by exact rfl) (w_plain spell_zero)))
  case done =>
    intro h tk m' htk hJ F N
    have e9 : (strValues xs).length = cs.length := by have := congrArg List.length hxs; simpa [strValues, ones] using this
    rw [e9, List.take_length] at hJ
    obtain ⟨t4, t5, m₂, rfl⟩ := hJ
    dsimp only
    k_steps
    all_goals exact hret _ _ _ _ (by k_asm) (by k_asm) (by assumption) ⟨_, rfl, rfl⟩
/-- the same, wherever the list and the names stand -/
theorem ct_wordM (w : World) (D A wr : Nat) (AL ND : Addr) (xs : List (PySem.Str × Tok)) (cs : List Nat) (c : Nat) (o : Obj) (tab : List (PySem.Str × PySem.Str)) (t1 t2 t3 : Tok) (hA : 1 ≤ A) (hD2 : D ≤ 10000) (hA2 : A ≤ 10000) (hw2 : wr ≤ 10000) (hcs : cs.length ≤ 3) (hxs : xs.map (·.1) = ones cs) (ht : ∀ c x, nameAt tab (S [c]) = some x → x.length ≤ 10)
    (lo : (ND == sysModules) = false) (hn : NamesOf PySem.Challenge.rw_rw0051_01.row.prog w o tab) (own : List (Addr × Obj)) (h1 : (AL, listOf (strValues xs).toArray c) ∈ own) (h2 : (ND, o) ∈ own) :
    Ct w 20 200 158 [.int (D : Int) t1, .int (A : Int) t2, .ref AL, .int (wr : Int) t3, .ref ND] own True (fun v n' => (∃ t, v = .str (S (wordOf D A cs tab wr)) t) ∧ n' = own) :=
  (ct_word w D A wr AL ND xs cs c o tab t1 t2 t3 hA hD2 hA2 hw2 hcs hxs ht lo hn own).perm (fun p hp => by
    rcases List.mem_cons.mp hp with rfl | hp
    · exact h1
    · rcases List.mem_cons.mp hp with rfl | hp
      · exact h2
      · exact hp) fun r n hP => by
    obtain ⟨t, e, rfl⟩ := hP
    exact ⟨own, fun p hp => .tail _ (.tail _ hp), ⟨t, e⟩, rfl⟩
theorem nmTab_len (h : Int) : ∀ c x, nameAt (nmTab h) (S [c]) = some x → x.length ≤ 10 := by
  intro c x hx
  have key : ∀ {ps : List (PySem.Str × PySem.Str)}, (ps.all fun p => decide (p.2.length ≤ 10)) = true → nameAt ps (S [c]) = some x → x.length ≤ 10 := fun {ps} ha hx => by
    unfold nameAt at hx
    cases hq : ps.find? (fun p => p.1 = S [c]) with
    | none => rw [hq] at hx; cases hx
    | some p =>
      rw [hq] at hx
      cases hx
      exact of_decide_eq_true (List.all_eq_true.mp ha p (List.mem_of_find?_eq_some hq))
  refine key ?_ hx
  unfold nmTab
  split
  · decide +kernel
  · split
    · decide +kernel
    · split
      · decide +kernel
      · split <;> decide +kernel
end Mine
end SWd1
section SWr1
open PySem PySem.W PyProof.Rows PySem.Calls
set_option Elab.async false
set_option maxRecDepth 100000
set_option maxHeartbeats 8000000
set_option pp.maxSteps 400
set_option autoImplicit false
namespace Mine
def escFn (h : Nat) : Addr := [104, 111, 118, 125, 132].getD h 0
def escOf (h : Nat) : List (Nat × List Nat) := [esc0, esc1, esc2, esc3, esc4].getD h []
theorem ct_write (w : World) (h : Nat) (h5 : h < 5) (l : List Nat) (t : Tok) (news : List (Addr × Obj)) : Ct w 20 200 (escFn h) [.str (S l) t] news (l.length ≤ 100000) (fun r n' => n' = news ∧ ∃ t', r = .str (S (repN (escOf h) l)) t') := by
  rcases h with _ | _ | _ | _ | _ | h
  · exact ct_esc0 w l t news
  · exact ct_esc1 w l t news
  · exact ct_esc2 w l t news
  · exact ct_esc3 w l t news
  · exact ct_esc4 w l t news
  · omega
/-- an escape and its names agree -/
structure Agree (rs : List (Nat × List Nat)) (tab : List (PySem.Str × PySem.Str)) : Prop where
  one : ∀ c, c ≠ 10 → c ≠ 13 → repN rs [c] = spell tab 1 c
  name : ∀ c x, nameAt tab (S [c]) = some x → x.cps.toList.flatMap (fun a => repN rs [a]) = x.cps.toList
  plain : ∀ c ∈ [46, 97, 109, 112, 59], repN rs [c] = [c]
  amp : repN rs [38] = [38, 97, 109, 112, 59]
theorem nameAt_none {tab : List (PySem.Str × PySem.Str)} {k : PySem.Str} (h : ∀ p ∈ tab, p.1 ≠ k) : nameAt tab k = none := by
  unfold nameAt
  rw [List.find?_eq_none.mpr (fun p hp => by simpa using h p hp)]; rfl
theorem flat_id {f : Nat → List Nat} : ∀ {l : List Nat}, (∀ c ∈ l, f c = [c]) → l.flatMap f = l
  | [], _ => rfl
  | c :: l, h => by rw [List.flatMap_cons, h c (.head _), flat_id fun a ha => h a (.tail _ ha)]; rfl
theorem agree_of {rs : List (Nat × List Nat)} {tab : List (PySem.Str × PySem.Str)} {ks : List Nat} (hk : ∀ c, c ∈ rs.map (·.1) → c = 10 ∨ c = 13 ∨ c ∈ ks) (ht : ∀ p ∈ tab, ∃ c, p.1 = S [c] ∧ c ∈ ks) (h1 : ∀ c ∈ ks, repN rs [c] = spell tab 1 c) (h2 : ∀ p ∈ tab, p.2.cps.toList.flatMap (fun a => repN rs [a]) = p.2.cps.toList)
    (h3 : ∀ c ∈ [46, 97, 109, 112, 59], repN rs [c] = [c]) (h4 : repN rs [38] = [38, 97, 109, 112, 59]) : Agree rs tab where
  one := fun c h10 h13 => by
    by_cases hc : c ∈ ks
    · exact h1 c hc
    · have e1 : c ∉ rs.map (·.1) := fun hm => by
        rcases hk c hm with h | h | h
        · exact h10 h
        · exact h13 h
        · exact hc h
      have e2 : nameAt tab (S [c]) = none := nameAt_none fun p hp e => by
        obtain ⟨c', e', hc'⟩ := ht p hp
        rw [e'] at e
        have := S_inj e
        simp at this
        exact hc (this ▸ hc')
      rw [repN_other e1, spell_none e2]
  name := fun c x hx => by
    unfold nameAt at hx
    cases hq : tab.find? (fun p => p.1 = S [c]) with
    | none => rw [hq] at hx; cases hx
    | some p => rw [hq] at hx; cases hx; exact h2 p (List.mem_of_find?_eq_some hq)
  plain := h3
  amp := h4
theorem agree (h : Nat) (h5 : h < 5) : Agree (escOf h) (nmTab (h : Int)) := by
  rcases h with _ | _ | _ | _ | _ | h
  · exact agree_of (ks := [38, 60, 62]) (by decide +kernel) (by intro p hp; revert p hp; show ∀ p ∈ [_, _, _], _; simp only [List.forall_mem_cons]; exact ⟨⟨38, of_amp, by decide⟩, ⟨60, of_lt, by decide⟩, ⟨62, of_gt, by decide⟩, fun _ h => nomatch h⟩) (by decide +kernel) (by decide +kernel) (by decide +kernel) (by decide +kernel)
  · exact agree_of (ks := [38, 60, 62, 34, 9]) (by decide +kernel) (by intro p hp; revert p hp; show ∀ p ∈ [_, _, _, _, _], _; simp only [List.forall_mem_cons]; exact ⟨⟨38, of_amp, by decide⟩, ⟨60, of_lt, by decide⟩, ⟨62, of_gt, by decide⟩, ⟨34, of_quot, by decide⟩, ⟨9, of_tab, by decide⟩, fun _ h => nomatch h⟩) (by decide +kernel) (by decide +kernel) (by decide +kernel) (by decide +kernel)
  · exact agree_of (ks := [38, 62, 34]) (by decide +kernel) (by intro p hp; revert p hp; show ∀ p ∈ [_, _, _], _; simp only [List.forall_mem_cons]; exact ⟨⟨38, of_amp, by decide⟩, ⟨62, of_gt, by decide⟩, ⟨34, of_quot, by decide⟩, fun _ h => nomatch h⟩) (by decide +kernel) (by decide +kernel) (by decide +kernel) (by decide +kernel)
  · exact agree_of (ks := [38, 60, 62]) (by decide +kernel) (by intro p hp; revert p hp; show ∀ p ∈ [_, _, _], _; simp only [List.forall_mem_cons]; exact ⟨⟨38, of_amp, by decide⟩, ⟨60, of_lt, by decide⟩, ⟨62, of_gt, by decide⟩, fun _ h => nomatch h⟩) (by decide +kernel) (by decide +kernel) (by decide +kernel) (by decide +kernel)
  · exact agree_of (ks := [38, 60, 34, 9]) (by decide +kernel) (by intro p hp; revert p hp; show ∀ p ∈ [_, _, _, _], _; simp only [List.forall_mem_cons]; exact ⟨⟨38, of_amp, by decide⟩, ⟨60, of_lt, by decide⟩, ⟨34, of_quot, by decide⟩, ⟨9, of_tab, by decide⟩, fun _ h => nomatch h⟩) (by decide +kernel) (by decide +kernel) (by decide +kernel) (by decide +kernel)
  · omega
/-- a writing of a word -/
theorem word_written {rs : List (Nat × List Nat)} {tab : List (PySem.Str × PySem.Str)} (ag : Agree rs tab) (D A wr : Nat) (hA : 1 ≤ A) (cs : List Nat) (h10 : 10 ∉ cs) (h13 : 13 ∉ cs) : repN rs (wordOf D A cs tab wr) = wordOf D (A + 1) cs tab (wr + 1) := by
  have hd : ∀ n, (List.replicate n 46).flatMap (fun a => repN rs [a]) = List.replicate n 46 := fun n => flat_id fun c hc => by rw [(List.mem_replicate.mp hc).2]; exact ag.plain 46 (by decide)
  have ha : ∀ n, (ampN n).flatMap (fun a => repN rs [a]) = ampN n := fun n => flat_id fun c hc => by
    refine ag.plain c ?_
    unfold ampN at hc
    rw [List.mem_flatten] at hc
    obtain ⟨l, hl, hc⟩ := hc
    rw [(List.mem_replicate.mp hl).2] at hc
    exact List.mem_cons_of_mem _ hc
  have hsp : ∀ c, c ≠ 10 → c ≠ 13 → (spell tab wr c).flatMap (fun a => repN rs [a]) = spell tab (wr + 1) c := fun c h10 h13 => by
    cases hn : nameAt tab (S [c]) with
    | none =>
      rw [spell_none hn, spell_none hn]
      simp [ag.one c h10 h13, spell_none hn]
    | some x =>
      rcases wr with _ | wr
      · rw [spell_zero]
        simp [ag.one c h10 h13]
      · rw [spell_some hn (by omega), spell_some hn (by omega), List.flatMap_cons, List.flatMap_append, ag.amp, ha, ag.name c x hn]
        show _ = 38 :: (ampN (wr + 1) ++ _)
        rw [ampN_succ]; rfl
  have hcs : ∀ cs : List Nat, 10 ∉ cs → 13 ∉ cs → (cs.flatMap (spell tab wr)).flatMap (fun a => repN rs [a]) = cs.flatMap (spell tab (wr + 1)) := fun cs => by
    induction cs with
    | nil => intro _ _; rfl
    | cons c cs ih =>
      intro h1 h2
      rw [List.flatMap_cons, List.flatMap_append, hsp c (fun e => h1 (e ▸ .head _)) (fun e => h2 (e ▸ .head _)), ih (fun h => h1 (.tail _ h)) (fun h => h2 (.tail _ h)), List.flatMap_cons]
  rw [repN_flat]
  unfold wordOf wd
  rw [List.flatMap_append, List.flatMap_cons, List.flatMap_append, hd, ag.amp, ha, hcs cs h10 h13]
  have e : A + 1 - 1 = (A - 1) + 1 := by omega
  rw [e, ampN_succ]
  simp
theorem qd_word (D n : Nat) (r : List Nat) (hD : 1 ≤ D) : qd (wd D n r) = wd (D + 1) n r := by
  obtain ⟨d, rfl⟩ : ∃ d, D = d + 1 := ⟨D - 1, by omega⟩
  unfold wd
  rw [List.replicate_succ]
  simp [qd, List.replicate_succ]
end Mine
end SWr1
section SSmP1
open PySem PySem.W PyProof.Rows PySem.Calls
set_option Elab.async false
set_option maxRecDepth 100000
set_option maxHeartbeats 8000000
set_option pp.maxSteps 400
set_option autoImplicit false
namespace Mine
/-- a word of the waiting line: its seed, its dots, its amps, its writings -/
abbrev Nd := Nat × Nat × Nat × Nat
/-- a turn -/
def stepS (g i : Nat) (st : List Nd × List Nd) : List Nd × List Nd := match st.2 with
  | [] => st
  | n :: r => (st.1 ++ [n], if i < g then r ++ [(n.1, n.2.1, n.2.2.1 + n.2.1, n.2.2.2 + n.2.1), (n.1, n.2.1 + n.2.2.1, n.2.2.1, n.2.2.2)] else r)
def simS (g : Nat) (q0 : List Nd) : Nat → List Nd × List Nd
  | 0 => ([], q0)
  | i + 1 => stepS g i (simS g q0 i)
def waysN : List Nat := [0, 1, 1, 2, 1, 3, 2, 3, 1]
def rowN (size p q : Nat) : List (Nat × Nat) := (List.range size).map fun k => (p * waysN.getD (size - k) 0 + q * waysN.getD k 0, p * waysN.getD (size - k - 1) 0 + q * waysN.getD (k + 1) 0)
def dueN (p1 q1 p2 q2 : Nat) : List Nd := [1, 2, 4, 8].flatMap fun size => (rowN size p1 q1).map (fun x => (0, x.1, x.2, x.2 - q1)) ++ (rowN size p2 q2).map fun x => (1, x.1, x.2, x.2 - q2)
def okNd (n : Nd) : Bool := decide (n.1 < 2) && decide (1 ≤ n.2.1) && decide (n.2.1 ≤ 100) && decide (1 ≤ n.2.2.1) && decide (n.2.2.1 ≤ 100) && decide (n.2.2.2 ≤ 100)
def okSim (g p1 q1 p2 q2 : Nat) : Bool :=
  decide (simS g [(0, p1, q1, 0), (1, p2, q2, 0)] (2 * g + 2) = ((dueN p1 q1 p2 q2).take (2 * g + 2), [])) &&
  (List.range (2 * g + 2)).all fun i => let st := simS g [(0, p1, q1, 0), (1, p2, q2, 0)] i; !st.2.isEmpty && decide (st.2.length ≤ 20) && decide (st.1.length = i) && st.2.all okNd
set_option maxRecDepth 100000 in
theorem okSim_all : ([2, 3, 4, 5, 6, 7].all fun g => [1, 2, 3].all fun p1 => [1, 2, 3].all fun q1 => [1, 2, 3].all fun p2 => [1, 2, 3].all fun q2 => okSim g p1 q1 p2 q2) = true := by decide +kernel
end Mine
end SSmP1
section SLp1
namespace Mine
theorem fresh16 : True := by
  w_top off
  trivial
end Mine
open PySem PySem.W PyProof.Rows PySem.Calls
set_option Elab.async false
set_option maxRecDepth 100000
set_option maxHeartbeats 8000000
set_option pp.maxSteps 400
set_option autoImplicit false
namespace Mine
/-- a source, and a token is there -/
def FSrcT (prog : Program) (w : World) (A : Around) (E : Value → Shared → Prop) (h₀ : Heap) (env : Env) (target : Expr) (body : List Stmt) (Q : Flow → Shared → Prop) (xv : Value) (s₁ : Shared) : Prop := 1 ≤ s₁.toks → FSrc prog w A E h₀ env target body Q xv s₁
theorem forWT {prog : Program} {w : World} {A : Around} {E : Value → Shared → Prop} {s : Shared} {h₀ : Heap} {m : PySem.Str → Option Value} {env : Env} {target iter : Expr} {body : List Stmt} {pos : Pos} {Q : Flow → Shared → Prop} (_F₀ : Fr h₀ env.locals s.heap m) (ht : 1 ≤ s.toks) (hs : ∀ x, foldedSetIterable iter env x = pure x)
    (h : wpAny (model prog w) A (eval iter env) (FSrcT prog w A E h₀ env target body Q) E s) :
    wpAny (model prog w) A (exec (.For target iter body [] pos) env) Q E s :=
  forW _F₀ hs (wpAny_with_toks (n := 1) ht (wpAny_mono h (fun _ _ h => h) fun _ _ e _ => e))
end Mine
local macro_rules | `(tactic| walk_at "exec For") => `(tactic| (k_here; k_dflt (refine Mine.forWT (by k_asm) (by first | assumption | (dsimp only; omega)) (fun _ => rfl) ?_)))
namespace Mine
def nthSt : List Stmt → Nat → Option Stmt
  | [], _ => none
  | x :: _, 0 => some x
  | _ :: r, n + 1 => nthSt r n
/-- a statement of the law -/
def lawSt (P : Program) (n : Nat) : Option (Scope × Stmt) := match P.main.body.getLast? with
  | some (.FunctionDef _ _ body _ _ _ scope _ _ _) => (match nthSt body n with | some st => some (scope, st) | none => none)
  | _ => none
/-- a map that tells these -/
def chain : List (PySem.Str × Value) → (PySem.Str → Option Value) → (PySem.Str → Option Value)
  | [], m => m
  | p :: r, m => fun y => if y = p.1 then some p.2 else chain r m y
theorem chain_eq : ∀ {l : List (PySem.Str × Value)} {m : PySem.Str → Option Value}, (∀ p ∈ l, m p.1 = some p.2) → chain l m = m
  | [], _, _ => rfl
  | p :: r, m, h => by
    funext y
    show (if y = p.1 then some p.2 else chain r m y) = m y
    rw [chain_eq fun q hq => h q (.tail _ hq)]
    by_cases e : y = p.1
    · rw [if_pos e, e, h p (.head _)]
    · rw [if_neg e]
theorem Fr_chain {h₀ h : Heap} {L : Addr} {m : PySem.Str → Option Value} (l : List (PySem.Str × Value)) (F : Fr h₀ L h m) (hl : ∀ p ∈ l, m p.1 = some p.2) : Fr h₀ L h (chain l m) := by rw [chain_eq hl]; exact F
end Mine
namespace Mine
/-- a statement of the growing turn -/
def innerSt (P : Program) (n : Nat) : Option (Scope × Stmt) := match lawSt P 11 with
  | some (sc, .For _ _ (_ :: _ :: .If _ body _ _ :: _) _ _) => (match nthSt body n with | some st => some (sc, st) | none => none)
  | _ => none
theorem escFnAt {w : World} {h₀ h : Heap} {L : Addr} {m : PySem.Str → Option Value} (k : Nat) (hk : k < 5) (X : (hd.heap_39 w.params).In h₀) (F : Fr h₀ L h m) : FnAt (escFn k) h := by
  have X' := X.keeps F.keep
  rcases k with _ | _ | _ | _ | _ | k
  · exact ⟨_, _, _, _, X' 104 _ (by rfl)⟩
  · exact ⟨_, _, _, _, X' 111 _ (by rfl)⟩
  · exact ⟨_, _, _, _, X' 118 _ (by rfl)⟩
  · exact ⟨_, _, _, _, X' 125 _ (by rfl)⟩
  · exact ⟨_, _, _, _, X' 132 _ (by rfl)⟩
  · omega
local macro_rules | `(tactic| walk_at "And") => `(tactic| ((with_reducible show FnAt (escFn _) _ ∧ _); refine ⟨by (k_dflt exact escFnAt _ (by assumption) (by k_asm) (by k_asm)), ?_⟩; try dsimp only [List.nil_append, List.cons_append]))
local macro_rules | `(tactic| walk_at "callWith ref") => `(tactic| (k_here; (with_reducible show wpAny _ _ (callWith _ (Value.ref (escFn _)) _ _ _) _ _ _); k_dflt (refine' callWith_F (by exact escFnAt _ (by assumption) (by k_asm) (by k_asm)) ?_; k_whole)))
local macro_rules | `(tactic| walk_at "call ref") => `(tactic| (k_here; (with_reducible show wpAny _ _ (call (Value.ref (escFn _)) [Value.str _ _]) _ _ _); k_dflt (refine' ct_useA (ct_write _ _ (by assumption) _ _ _) (by assumption) ?_; k_whole; intro _ _ _ _ _ _ _ hp9; obtain ⟨e2, _, e1⟩ := hp9; subst e1; subst e2; (try k_sweep))))
local macro_rules | `(tactic| walk_at "call ref") => `(tactic| (k_here; (with_reducible show wpAny _ _ (call (Value.ref 90) [Value.str _ _]) _ _ _); k_dflt (refine' ct_useA (ct_quote _ _ _ _) (by assumption) ?_; k_whole; intro _ _ _ _ _ _ _ hp9; obtain ⟨e2, _, e1⟩ := hp9; subst e1; subst e2; (try k_sweep))))
section
variable {w : World} {p : Program} {loose : List Str} {mean : ExcName → Option Value} {mg mb : Str → Option Value} {dp un : Nat} {gd : Option (List Code)} {outer : List Env} {A₀ : Around} {base h₀ : Heap} {L : Addr} {s : Shared} {E : Value → Shared → Prop} {Q : Flow → Shared → Prop} {m : PySem.Str → Option Value} {news : List (Addr × Obj)} {sc : Scope} {st : Stmt} {qn : PySem.Str} {a : Addr} {cd : Value}
theorem loopW (hst : innerSt PySem.Challenge.rw_rw0051_01.row.prog 2 = some (sc, st)) (k : Nat) (hk5 : k < 5) (D : Nat) (hD : D ≤ 1000) (l : Nat → List Nat) (hl : ∀ i, i ≤ D → (l i).length ≤ 100000) (hstep : ∀ i, repN (escOf k) (l i) = l (i + 1)) (t1 t2 : Tok)
    (F : Fr h₀ L s.heap m) (N : News h₀ L s.heap news) (B : Below A₀ base outer h₀) (X : (hd.heap_39 w.params).In h₀) (T : Top p loose mean mg mb h₀) (hdp : dp + 60 < recursionLimit) (hu : un + 600 < cLine) (ht : 1 ≤ s.toks)
    (h1 : m ("dots" : PySem.Str) = some (.int (D : Int) t1)) (h2 : m ("written" : PySem.Str) = some (.str (S (l 0)) t2))
    (h3 : m ("write" : PySem.Str) = some (.ref (escFn k)))
    (hret : ∀ h' tk' m' t', 1 ≤ tk' → Fr h₀ L h' m' → News h₀ L h' news → m' ("written" : PySem.Str) = some (.str (S (l D)) t') → (∀ y, y ≠ ("written" : PySem.Str) → y ≠ ("again" : PySem.Str) → m' y = m y) → Q .next { s with heap := h', toks := tk' }) :
    wpAny (model PySem.Challenge.rw_rw0051_01.row.prog w) (cT dp un gd (envOfC qn sc L a cd) outer) (exec st (envOfC qn sc L a cd)) Q E s := by
  have e : innerSt PySem.Challenge.rw_rw0051_01.row.prog 2 = some (_, _) := rfl
  rw [e] at hst
  cases hst
  clear e
  revert X
  k_fill
  intro X
  have hch : chain [(("dots" : PySem.Str), .int (D : Int) t1), (("written" : PySem.Str), .str (S (l 0)) t2), (("write" : PySem.Str), .ref (escFn k))] m = m := chain_eq (by simp only [List.forall_mem_cons]; exact ⟨h1, h2, h3, fun _ h => nomatch h⟩)
  rw [← hch] at F
  dsimp only [chain] at F
  k_steps
  intro ht9
  refine' forAt_rangeK (n := D) (fun i m' => ∃ t', m' ("written" : PySem.Str) = some (.str (S (l i)) t') ∧ ∀ y, y ≠ ("written" : PySem.Str) → y ≠ ("again" : PySem.Str) → m' y = m y) ?hh ?hr ?sm ?rs ?F ?N ?ht ?hj ?turn ?done
  case hh => exact rfl
  case hr => k_asm
  case sm => exact small_one (by decide) (by decide) (by omega) (by omega)
  case rs => rw [rangeSize_one]; split <;> omega
  case F => k_asm
  case N => k_asm
  case ht => exact ht9
  case hj => exact ⟨t2, by exact rfl, fun y _ _ => congrFun hch y⟩
  case turn =>
    intro I oI i t m₁ h tk E' hI hi hJ htk F N
    obtain ⟨t', hw, hag⟩ := hJ
    have hp9 := hl i (Nat.le_of_lt hi)
    have hs9 := hstep i
    have hch2 : chain [(("written" : PySem.Str), .str (S (l i)) t'), (("write" : PySem.Str), .ref (escFn k))] m₁ = m₁ := chain_eq (by simp only [List.forall_mem_cons]; exact ⟨hw, (hag _ (by decide) (by decide)).trans h3, fun _ h => nomatch h⟩)
    rw [← hch2] at F
    dsimp only [chain] at F
    refine wpAny_assign_Name ?_
    k_steps
    rw [hs9] at *
    refine KTurn.intro (by k_asm) (by k_asm) (by assumption) (fun _ h => h) ⟨_, by exact rfl, fun y h1 h2 => ?_⟩
    refine Eq.trans ?_ (hag y h1 h2)
    refine Eq.trans ?_ (congrFun hch2 y)
    exact (if_neg h1).trans (if_neg h2)
  case done =>
    intro h tk m' htk hJ F N
    obtain ⟨t', hw, hag⟩ := hJ
    exact hret h tk m' t' htk F N hw hag
theorem loopS (hst : innerSt PySem.Challenge.rw_rw0051_01.row.prog 5 = some (sc, st)) (D : Nat) (hD : D ≤ 1000) (l : Nat → List Nat) (hl : ∀ i, i ≤ D → (l i).length ≤ 1000000 ∧ 10 ∉ l i ∧ 13 ∉ l i) (hstep : ∀ i, qd (l i) = l (i + 1)) (t1 t2 : Tok)
    (F : Fr h₀ L s.heap m) (N : News h₀ L s.heap news) (B : Below A₀ base outer h₀) (X : (hd.heap_39 w.params).In h₀) (T : Top p loose mean mg mb h₀) (hdp : dp + 60 < recursionLimit) (hu : un + 600 < cLine) (ht : 1 ≤ s.toks)
    (h1 : m ("amps" : PySem.Str) = some (.int (D : Int) t1)) (h2 : m ("sent" : PySem.Str) = some (.str (S (l 0)) t2))
    (hret : ∀ h' tk' m' t', 1 ≤ tk' → Fr h₀ L h' m' → News h₀ L h' news → m' ("sent" : PySem.Str) = some (.str (S (l D)) t') → (∀ y, y ≠ ("sent" : PySem.Str) → y ≠ ("again" : PySem.Str) → m' y = m y) → Q .next { s with heap := h', toks := tk' }) :
    wpAny (model PySem.Challenge.rw_rw0051_01.row.prog w) (cT dp un gd (envOfC qn sc L a cd) outer) (exec st (envOfC qn sc L a cd)) Q E s := by
  have e : innerSt PySem.Challenge.rw_rw0051_01.row.prog 5 = some (_, _) := rfl
  rw [e] at hst
  cases hst
  clear e
  revert X
  k_fill
  intro X
  have hch : chain [(("amps" : PySem.Str), .int (D : Int) t1), (("sent" : PySem.Str), .str (S (l 0)) t2)] m = m := chain_eq (by simp only [List.forall_mem_cons]; exact ⟨h1, h2, fun _ h => nomatch h⟩)
  rw [← hch] at F
  dsimp only [chain] at F
  k_steps
  intro ht9
  refine' forAt_rangeK (n := D) (fun i m' => ∃ t', m' ("sent" : PySem.Str) = some (.str (S (l i)) t') ∧ ∀ y, y ≠ ("sent" : PySem.Str) → y ≠ ("again" : PySem.Str) → m' y = m y) ?hh ?hr ?sm ?rs ?F ?N ?ht ?hj ?turn ?done
  case hh => exact rfl
  case hr => k_asm
  case sm => exact small_one (by decide) (by decide) (by omega) (by omega)
  case rs => rw [rangeSize_one]; split <;> omega
  case F => k_asm
  case N => k_asm
  case ht => exact ht9
  case hj => exact ⟨t2, by exact rfl, fun y _ _ => congrFun hch y⟩
  case turn =>
    intro I oI i t m₁ h tk E' hI hi hJ htk F N
    obtain ⟨t', hw, hag⟩ := hJ
    have hp9 := hl i (Nat.le_of_lt hi)
    have hs9 := hstep i
    have hch2 : chain [(("sent" : PySem.Str), .str (S (l i)) t')] m₁ = m₁ := chain_eq (by simp only [List.forall_mem_cons]; exact ⟨hw, fun _ h => nomatch h⟩)
    rw [← hch2] at F
    dsimp only [chain] at F
    refine wpAny_assign_Name ?_
    k_steps
    rw [hs9] at *
    refine KTurn.intro (by k_asm) (by k_asm) (by assumption) (fun _ h => h) ⟨_, by exact rfl, fun y h1 h2 => ?_⟩
    refine Eq.trans ?_ (hag y h1 h2)
    refine Eq.trans ?_ (congrFun hch2 y)
    exact (if_neg h1).trans (if_neg h2)
  case done =>
    intro h tk m' htk hJ F N
    obtain ⟨t', hw, hag⟩ := hJ
    exact hret h tk m' t' htk F N hw hag
end
end Mine
end SLp1
section SSd1
local macro_rules | `(tactic| walk_at "z") => `(tactic| skip)
local macro_rules | `(tactic| walk_at "z") => `(tactic| skip)
namespace Mine
theorem fresh17 : True := by
  w_top off
  trivial
end Mine
open PySem PySem.W PyProof.Rows PySem.Calls
set_option Elab.async false
set_option maxRecDepth 100000
set_option maxHeartbeats 8000000
set_option pp.maxSteps 400
set_option autoImplicit false
namespace Mine
/-- what a number tells of a word -/
def sdSigns (n : Nat) : List Nat := [38, 60, 62, 34, 92, 32, 9, 160 + n / 9216 % 50000]
def sdSign (n z : Nat) : Nat := (sdSigns n).getD (n / z % 8) 0
def sdAlong (n : Nat) : List Nat := [sdSign n 18, sdSign n 144, sdSign n 1152]
def sdVals (xs : List (PySem.Str × Tok)) (n i : Nat) : Prop := xs.map (·.1) = ones ((sdAlong n).take i)
theorem of_sd : PySem.Str.ofString "&<>\"\\ \t" = S [38, 60, 62, 34, 92, 32, 9] := by decide +kernel
theorem sd_text (n : Nat) : (PySem.Str.ofString "&<>\"\\ \t" ++ { cps := #[(160 + ((n : Int).fdiv 9216).fmod 50000).toNat] } : PySem.Str) = S (sdSigns n) := by
  have e : (160 + ((n : Int).fdiv 9216).fmod 50000).toNat = 160 + n / 9216 % 50000 := by
    have := fdm n 9216 50000
    rw [show ((n : Int).fdiv 9216).fmod 50000 = ((n / 9216 % 50000 : Nat) : Int) from this]; omega
  rw [e, of_sd]
  exact S_append _ [160 + n / 9216 % 50000]
abbrev seedObj (n : Nat) (AL : Addr) (t1 t2 t3 : Tok) : Obj := { cls := .type "tuple", data := .seq #[.int ((n % 3 + 1 : Nat) : Int) t1, .int ((n / 3 % 3 + 1 : Nat) : Int) t2, .ref AL, .int ((n / 9 % 2 : Nat) : Int) t3] }
theorem ct_seed (w : World) (n : Nat) (t : Tok) (h5 : n < 1000000000) (own : List (Addr × Obj)) :
    Ct w 20 200 151 [.int (n : Int) t] own True (fun v n' => ∃ T AL xs c t1 t2 t3, v = .ref T ∧ T ≠ AL ∧ xs.map (·.1) = ones (sdAlong n) ∧ n' = (T, seedObj n AL t1 t2 t3) :: (AL, listOf (strValues xs).toArray c) :: own) := by
  unfold Ct
  k_fill
  intro p loose mean mg mb dp un gd env outer A₀ base h₀ L m s Q E B F X N T hf hk hdp hun htk hx hret
  refine codeAny_with_toks htk ?_
  k_dflt ktr_enter
  have h0 : (0 : Int) ≤ (n : Int) := Int.natCast_nonneg n
  have h9 : (n : Int) < 1000000000 := by omega
  k_steps
  refine' compAt_tupleK (fun i ys => ∃ xs, ys = strValues xs ∧ sdVals xs n i) ?hh ?F ?N ?hm ?ho ?z ?j ?turn ?fin
  case hh => exact rfl
  case F => k_asm
  case N => k_asm
  case hm => exact .head _
  case ho => k_dflt exact ⟨rfl, _, rfl⟩
  case z => exact Nat.le_of_ble_eq_true rfl
  case j => exact ⟨[], rfl, rfl⟩
  case turn =>
    intro i ys v I oI C oC D m₂ h tk E' hJ hv hO hmx F N off ne
    obtain ⟨xs, rfl, hxs⟩ := hJ
    have fin : ∀ {z : Nat} {t : Tok}, (sdAlong n).take (i + 1) = (sdAlong n).take i ++ [sdSign n z] → ∃ xs', strValues xs ++ [.str (S [(sdSigns n).getD (n / z % 8) 0]) t] = strValues xs' ∧ sdVals xs' n (i + 1) := fun {z t} e => by
      refine ⟨xs ++ [(S [sdSign n z], t)], by simp [strValues, sdSign], ?_⟩
      show _ = ones _
      rw [e, List.map_append, show xs.map (·.1) = ones _ from hxs]; simp [ones]
    rcases i with _ | _ | _ | i
    · cases hv
      k_steps
      refine' txt_item (l := sdSigns n) (n / 18 % 8) (sd_text n) (fdm n 18 8) ?_ ?_ ?_
      case _ => exact Nat.mod_lt _ (by decide)
      case _ => exact (show (8 : Nat) ≤ 1000000 by decide)
      exact KEnd.intro (by k_asm) (by k_asm) (fun _ h => h) (fin rfl)
    · cases hv
      k_steps
      refine' txt_item (l := sdSigns n) (n / 144 % 8) (sd_text n) (fdm n 144 8) ?_ ?_ ?_
      case _ => exact Nat.mod_lt _ (by decide)
      case _ => exact (show (8 : Nat) ≤ 1000000 by decide)
      exact KEnd.intro (by k_asm) (by k_asm) (fun _ h => h) (fin rfl)
    · cases hv
      k_steps
      refine' txt_item (l := sdSigns n) (n / 1152 % 8) (sd_text n) (fdm n 1152 8) ?_ ?_ ?_
      case _ => exact Nat.mod_lt _ (by decide)
      case _ => exact (show (8 : Nat) ≤ 1000000 by decide)
      exact KEnd.intro (by k_asm) (by k_asm) (fun _ h => h) (fin rfl)
    · cases hv
  case fin =>
    intro g ys hJ D h tk F N off
    obtain ⟨xs, rfl, hxs⟩ := hJ
    dsimp only
    k_steps
    have e1 : (n : Int).fmod 3 + 1 = ((n % 3 + 1 : Nat) : Int) := by rw [show (n : Int).fmod 3 = ((n % 3 : Nat) : Int) from fmn n 3]; omega
    have e2 : ((n : Int).fdiv 3).fmod 3 + 1 = ((n / 3 % 3 + 1 : Nat) : Int) := by rw [show ((n : Int).fdiv 3).fmod 3 = ((n / 3 % 3 : Nat) : Int) from fdm n 3 3]; omega
    have e3 : ((n : Int).fdiv 9).fmod 2 = ((n / 9 % 2 : Nat) : Int) := fdm n 9 2
    rename_i kF9 kN9 _ _ _
    rw [e1, e2, e3] at kN9
    exact hret _ _ _ ((_, seedObj n D _ _ _) :: (D, listOf (strValues xs).toArray (strValues xs).length) :: own) kF9
      (cb_drop kN9 fun p9 hp9 => by rcases List.mem_cons.mp hp9 with rfl | hp9; (· exact .head _); (rcases List.mem_cons.mp hp9 with rfl | hp9; (· exact .tail _ (.head _)); (· k_ownIn))) (by assumption)
      ⟨_, D, xs, _, _, _, _, rfl, Nat.ne_of_gt (by with_reducible assumption), hxs, rfl⟩
end Mine
end SSd1
section SWf1
open PySem PySem.W PyProof.Rows PySem.Calls
set_option Elab.async false
set_option maxRecDepth 100000
set_option maxHeartbeats 8000000
set_option pp.maxSteps 400
set_option autoImplicit false
namespace Mine
/-- signs that a seed may have -/
def plainCs (cs : List Nat) : Prop := cs.length ≤ 3 ∧ ∀ c ∈ cs, c ≠ 10 ∧ c ≠ 13 ∧ c ≠ 97
theorem nm_free (k : Nat) (hk : k < 5) : ∀ c x, nameAt (nmTab (k : Int)) (S [c]) = some x → 10 ∉ x.cps.toList ∧ 13 ∉ x.cps.toList := by
  have key : ∀ {ps : List (PySem.Str × PySem.Str)}, (ps.all fun p => decide (10 ∉ p.2.cps.toList) && decide (13 ∉ p.2.cps.toList)) = true → ∀ c x, nameAt ps (S [c]) = some x → 10 ∉ x.cps.toList ∧ 13 ∉ x.cps.toList := fun {ps} ha c x hx => by
    unfold nameAt at hx
    cases hq : ps.find? (fun p => p.1 = S [c]) with
    | none => rw [hq] at hx; cases hx
    | some p =>
      rw [hq] at hx
      cases hx
      have := List.all_eq_true.mp ha p (List.mem_of_find?_eq_some hq)
      rw [Bool.and_eq_true, decide_eq_true_eq, decide_eq_true_eq] at this
      exact this
  rcases k with _ | _ | _ | _ | _ | k
  · exact key (by decide +kernel)
  · exact key (by decide +kernel)
  · exact key (by decide +kernel)
  · exact key (by decide +kernel)
  · exact key (by decide +kernel)
  · omega
theorem mem_ampN {n c : Nat} (h : c ∈ ampN n) : c ∈ [97, 109, 112, 59] := by
  unfold ampN at h
  rw [List.mem_flatten] at h
  obtain ⟨l, hl, hc⟩ := h
  rw [(List.mem_replicate.mp hl).2] at hc
  exact hc
theorem word_free (k : Nat) (hk : k < 5) (D A wr : Nat) (cs : List Nat) (hcs : plainCs cs) : 10 ∉ wordOf D A cs (nmTab (k : Int)) wr ∧ 13 ∉ wordOf D A cs (nmTab (k : Int)) wr := by
  have sp : ∀ c ∈ cs, 10 ∉ spell (nmTab (k : Int)) wr c ∧ 13 ∉ spell (nmTab (k : Int)) wr c := by
    intro c hc
    obtain ⟨c1, c2, _⟩ := hcs.2 c hc
    cases hn : nameAt (nmTab (k : Int)) (S [c]) with
    | none => rw [spell_none hn]; simp; exact ⟨Ne.symm c1, Ne.symm c2⟩
    | some x =>
      obtain ⟨x1, x2⟩ := nm_free k hk c x hn
      rcases wr with _ | wr
      · rw [spell_zero]; simp; exact ⟨Ne.symm c1, Ne.symm c2⟩
      · rw [spell_some hn (by omega)]
        refine ⟨fun h => ?_, fun h => ?_⟩
        all_goals
          rcases List.mem_cons.mp h with h | h
          · cases h
          · rcases List.mem_append.mp h with h | h
            · have := mem_ampN h; simp at this
            · first | exact x1 h | exact x2 h
  unfold wordOf wd
  refine ⟨fun h => ?_, fun h => ?_⟩
  all_goals
    rcases List.mem_append.mp h with h | h
    · have := (List.mem_replicate.mp h).2; omega
    · rcases List.mem_cons.mp h with h | h
      · cases h
      · rcases List.mem_append.mp h with h | h
        · have := mem_ampN h; simp at this
        · obtain ⟨c, hc, h⟩ := List.mem_flatMap.mp h
          first | exact (sp c hc).1 h | exact (sp c hc).2 h
theorem word_len (k : Nat) (D A wr : Nat) (cs : List Nat) (hcs : plainCs cs) (hD : D ≤ 1000) (hA : A ≤ 1000) (hw : wr ≤ 1000) : (wordOf D A cs (nmTab (k : Int)) wr).length ≤ 30000 := by
  unfold wordOf
  rw [wd_len]
  have := spells_len (nmTab_len (k : Int)) wr cs
  have h3 := hcs.1
  have : (4 * wr + 20) * cs.length ≤ (4 * wr + 20) * 3 := Nat.mul_le_mul_left _ h3
  omega
theorem spells_head (k : Nat) (wr : Nat) (cs : List Nat) (hcs : plainCs cs) : (cs.flatMap (spell (nmTab (k : Int)) wr)).take 4 ≠ [97, 109, 112, 59] := by
  rcases cs with _ | ⟨c, cs⟩
  · intro h; cases h
  · obtain ⟨_, _, c3⟩ := hcs.2 c (.head _)
    have : ∃ d r, spell (nmTab (k : Int)) wr c = d :: r ∧ d ≠ 97 := by
      cases hn : nameAt (nmTab (k : Int)) (S [c]) with
      | none => exact ⟨c, [], spell_none hn wr, c3⟩
      | some x =>
        rcases wr with _ | wr
        · exact ⟨c, [], rfl, c3⟩
        · exact ⟨38, _, spell_some hn (by omega), by decide⟩
    obtain ⟨d, r, e, hd⟩ := this
    rw [List.flatMap_cons, e]
    intro h
    simp at h
    exact hd h.1
theorem sd_plain (n : Nat) : plainCs (sdAlong n) := by
  refine ⟨Nat.le_refl 3, ?_⟩
  have key : ∀ z, sdSign n z ≠ 10 ∧ sdSign n z ≠ 13 ∧ sdSign n z ≠ 97 := by
    intro z
    unfold sdSign
    have h8 : n / z % 8 < 8 := Nat.mod_lt _ (by decide)
    generalize n / z % 8 = i at h8
    unfold sdSigns
    rcases i with _ | _ | _ | _ | _ | _ | _ | _ | i
    all_goals simp
    all_goals omega
  intro c hc
  simp only [sdAlong, List.mem_cons, List.not_mem_nil, or_false] at hc
  rcases hc with rfl | rfl | rfl <;> exact key _
end Mine
end SWf1
section SWy1
namespace Mine
theorem fresh18 : True := by
  w_top off
  trivial
end Mine
open PySem PySem.W PyProof.Rows PySem.Calls
set_option Elab.async false
set_option maxRecDepth 100000
set_option maxHeartbeats 8000000
set_option pp.maxSteps 400
set_option autoImplicit false
namespace Mine
def waysL : List Int := [0, 1, 1, 2, 1, 3, 2, 3, 1]
theorem ways_eq : (0 : Int) :: (List.range 8).map (fun (k : Nat) => (((tri fun a b c => a + 2 * b + 4 * c).count (k : Int) : Nat) : Int)) = waysL := by decide +kernel
theorem AreInts.cons {ys : List Value} {ns : List Int} (h : AreInts ys ns) (n : Int) (t : Tok) : AreInts (.int n t :: ys) (n :: ns) := by
  obtain ⟨ps, rfl, rfl⟩ := h
  exact ⟨(n, t) :: ps, rfl, rfl⟩
theorem ct_ways (w : World) (own : List (Addr × Obj)) :
    Ct w 20 200 175 [] own True (fun v n' => ∃ D ys c, v = .ref D ∧ AreInts ys waysL ∧ n' = (D, listOf ys.toArray c) :: own) := by
  unfold Ct
  k_fill
  intro p loose mean mg mb dp un gd env outer A₀ base h₀ L m s Q E B F X N T hf hk hdp hun htk hx hret
  refine codeAny_with_toks htk ?_
  k_dflt ktr_enter
  k_steps
  refine' comp3 (fun a b c => a + 2 * b + 4 * c) ?F ?hh ?h1 ?h2 ?h3 ?hcl ?hce ?hki ?hna ?hx ?hy ?hz ?s0 ?s1 ?s2 ?i1 ?i2 ?elt ?h
  case F => k_asm
  case hh => exact rfl
  case h1 => decide
  case h2 => decide
  case h3 => decide
  case hcl => with_unfolding_all rfl
  case hce => decide
  case hki => rfl
  case hna => decide
  case hx => rfl
  case hy => rfl
  case hz => rfl
  case s0 => exact fun _ => rfl
  case s1 => exact fun _ _ => rfl
  case s2 => exact fun _ _ => rfl
  case h =>
    k_steps
    refine ⟨_, _, _, _, _, rfl, by k_asm, by k_asm, by k_asm, fun D h tk ys hys F N hoff => ?_⟩
    have hne : @Ne Nat D _ := Ne.symm (hoff _ (.head _))
    dsimp only at hne
    dsimp only
    k_steps
    have hI := hys.ints
    refine' compAt_rangeK (n := 8) (fun i zs => AreInts zs ((List.range i).map fun (k : Nat) => (((tri fun a b c => a + 2 * b + 4 * c).count (k : Int) : Nat) : Int))) ?hh ?hr ?sm ?rs ?F ?N ?hz ?hj ?turn ?fin
    case hh => exact rfl
    case hr => k_asm
    case sm => decide
    case rs => decide
    case F => k_asm
    case N => k_asm
    case hz => exact Nat.le_of_ble_eq_true rfl
    case hj => exact AreInts.nil
    case turn =>
      intro i zs t I oI C oC D₂ m₂ h tk E' hi hJ hO hmx F N off ne
      k_steps
      refine KEnd.intro (by k_asm) (by k_asm) (fun _ h => h) ?_
      rw [List.range_succ, List.map_append, show (0 : Int) + (i : Int) = (i : Int) by omega]
      exact hJ.snoc _ _
    case fin =>
      intro g zs hJ D₂ h tk F N off
      dsimp only
      have hlD := N _ (List.Mem.tail _ (List.Mem.head _))
      refine add_lists (vs := [.int 0 _]) (ws := zs) F N ⟨_, (N _ (.tail _ (.head _))).1, rfl, _, rfl⟩ ⟨_, (N _ (.head _)).1, rfl, _, rfl⟩ (hsz := ?z) (fun h' F' N' => ?_)
      case z => rw [hJ.length, sizeLine_eq, List.length_map, List.length_range]; exact (by decide : 1 + 8 ≤ 16777216)
      k_steps
      exact hret _ _ _ _ (by k_asm) (cb_drop (by k_asm) (by k_allIn)) (by assumption) ⟨_, _, _, rfl, ways_eq ▸ hJ.cons 0 _, rfl⟩
  case i1 =>
    rintro sb C D m₂ ys its s' E' ⟨h, tk, oC, rfl, F, N, hC, hCD, hoff⟩
    k_steps
    exact ⟨_, _, oC, rfl, by k_asm, by k_asm, hC, hCD, hoff⟩
  case i2 =>
    rintro sb C D m₂ ys its s' E' ⟨h, tk, oC, rfl, F, N, hC, hCD, hoff⟩
    k_steps
    exact ⟨_, _, oC, rfl, by k_asm, by k_asm, hC, hCD, hoff⟩
  case elt =>
    rintro a b c sb C D m₂ ys its s' E' ⟨t1, hx⟩ ⟨t2, hy⟩ ⟨t3, hz⟩ ⟨h, tk, oC, rfl, F, N, hC, hCD, hoff⟩
    k_steps
    exact ⟨_, _, oC, rfl, by k_asm, by k_asm, hC, hCD, hoff⟩
end Mine
end SWy1
section SRw1
local macro_rules | `(tactic| walk_at "z") => `(tactic| skip)
namespace Mine
theorem fresh19 : True := by
  w_top off
  trivial
end Mine
open PySem PySem.W PyProof.Rows PySem.Calls
set_option Elab.async false
set_option maxRecDepth 100000
set_option maxHeartbeats 8000000
set_option pp.maxSteps 400
set_option autoImplicit false
namespace Mine
structure RowE where
  (T : Addr)
  (a b : Int)
  (t u : Tok)
def rowLed (l : List RowE) : List (Addr × Obj) := l.map fun e => (e.T, pairObj e.a e.b e.t e.u)
def rowRefs (l : List RowE) : List Value := l.map fun e => .ref e.T
def rowAt (size p q k : Nat) : Int × Int := ((p : Int) * waysL.getD (size - k) 0 + (q : Int) * waysL.getD k 0, (p : Int) * waysL.getD (size - k - 1) 0 + (q : Int) * waysL.getD (k + 1) 0)
def rowL (size p q : Nat) : List (Int × Int) := (List.range size).map (rowAt size p q)
section
variable {prog : Program} {w : World} {A : Around} {E : Value → Shared → Prop} {s : Shared} {h₀ : Heap} {L l : Addr} {news : List (Addr × Obj)}
theorem ways_item {value slice : PySem.Expr} {ys : List Value} {n : Nat} {k : Int} {u : Tok} {Q : Value → Shared → Prop} (hys : AreInts ys waysL) (N : News h₀ L s.heap news) (hm : (l, listOf ys.toArray n) ∈ news) (h0 : 0 ≤ k) (h9 : k < 9) (h : ∀ t, Q (.int (waysL.getD k.toNat 0) t) s)
    (hs : subscripted slice false (.ref l) (.int k u) = operate [.ref l, .int k u] (getItem (.ref l) (.int k u)) := by with_unfolding_all rfl) (hg : ∀ r, letTemporaryGo value (.ref l) r = pure () := by intro _; with_unfolding_all rfl) :
    wpAny (model prog w) A (subscriptTail value slice (.ref l) (.int k u)) Q E s := by
  have hk : k.toNat < 9 := by omega
  have hb : waysL[k.toNat]? = some (waysL.getD k.toNat 0) := by
    generalize k.toNat = i at hk
    rcases i with _ | _ | _ | _ | _ | _ | _ | _ | _ | i
    all_goals first | rfl | omega
  obtain ⟨t, ht⟩ := hys.at hb
  exact menu_item N hm h0 (by omega) ht (h t) hs hg
end
theorem ways_mul (a : Int) (n : Nat) : IntMulOk a (waysL.getD n 0) := IntMulOk.of_right (by
  have key : ∀ x ∈ (0 : Int) :: waysL, Builtin.Int.intBits x ≤ 64 := by decide +kernel
  refine key _ ?_
  rw [List.getD_eq_getElem?_getD]
  cases h : waysL[n]? with
  | none => exact .head _
  | some x => exact .tail _ (List.mem_of_getElem? h))
theorem row_end {h₀ h' : Heap} {L I C D T : Addr} {m : PySem.Str → Option Value} {s₁ : Shared} {oI oC oD o : Obj} {rest : Value → List (Addr × Obj) → Prop} {tk : Nat} {x1 x2 x3 x4 x5 : Addr × Obj} {own : List (Addr × Obj)} {l : List RowE} {e : RowE} (hT : T = e.T) (ho : o = pairObj e.a e.b e.t e.u)
    (F : Fr h₀ L h' m) (N : News h₀ L h' ((T, o) :: (I, oI) :: (C, oC) :: (D, oD) :: x1 :: x2 :: x3 :: x4 :: x5 :: (own ++ rowLed l))) (off : LCg.Off3 I C D (x1 :: x2 :: x3 :: x4 :: x5 :: (own ++ rowLed l))) (h1 : @LT.lt Nat _ I T) (h2 : @LT.lt Nat _ C T) (h3 : @LT.lt Nat _ D T)
    (r : rest (.ref T) (x1 :: x2 :: x3 :: x4 :: x5 :: (own ++ rowLed (l ++ [e])))) :
    LCg.CompEnd h₀ L m s₁ I oI C oC D oD (fun _ => True) rest (.ref T) { s₁ with heap := h', toks := tk } := by
  have er : rowLed (l ++ [e]) = rowLed l ++ [(T, o)] := by rw [hT, ho]; unfold rowLed; rw [List.map_append]; rfl
  refine LCg.CompEnd.intro F N _ (fun p hp => ?_) ?_ trivial r
  · rw [er] at hp
    iterate 8 (rcases List.mem_cons.mp hp with rfl | hp; · (repeat first | exact List.Mem.head _ | refine List.Mem.tail _ ?_))
    rw [← List.append_assoc] at hp
    rcases List.mem_append.mp hp with hp | hp
    · (repeat first | exact hp | refine List.Mem.tail _ ?_)
    · rw [List.mem_singleton.mp hp]; exact .head _
  · rw [er]
    obtain ⟨o1, o2, o3, o4, o5, off⟩ := off
    refine ⟨o1, o2, o3, o4, o5, ?_⟩
    rw [← List.append_assoc]
    have key : ∀ {k : List (Addr × Obj)}, LCg.Off3 I C D k → LCg.Off3 I C D (k ++ [(T, o)]) := by
      intro k
      induction k with
      | nil => intro _; exact ⟨⟨Ne.symm (Nat.ne_of_lt h1), Ne.symm (Nat.ne_of_lt h2), Ne.symm (Nat.ne_of_lt h3)⟩, trivial⟩
      | cons a k ih => intro h; exact ⟨h.1, ih h.2⟩
    exact key off
local macro_rules | `(tactic| walk_at "subscriptTail") => `(tactic| (k_here; (with_reducible show wpAny _ _ (subscriptTail _ _ (Value.ref _) (Value.int _ _)) _ _ _); k_dflt (refine' ways_item (by assumption) (by k_asm) (by k_mem) (by omega) (by omega) ?_; k_whole; intro _)))
def RowJ (own : List (Addr × Obj)) (size p q : Nat) (x1 x2 x3 x4 x5 : Addr × Obj) (i : Nat) (zs : List Value) (nw : List (Addr × Obj)) : Prop := ∃ l : List RowE, zs = rowRefs l ∧ l.map (fun e : RowE => (e.a, e.b)) = (List.range i).map (rowAt size p q) ∧ nw = x1 :: x2 :: x3 :: x4 :: x5 :: (own ++ rowLed l)
local macro_rules | `(tactic| walk_at "binaryOp Mult int int") => `(tactic| (k_here; refine mul_int ?_ (Mine.ways_mul _ _); dsimp only))
theorem ct_rowG (w : World) (size p9 q9 : Nat) (hs1 : 1 ≤ size) (hs8 : size ≤ 8) (W : Addr) (ys : List Value) (c : Nat) (t1 t2 t3 : Tok) (hys : AreInts ys waysL) (own : List (Addr × Obj)) :
    Ct w 20 200 180 [.int (size : Int) t1, .int (p9 : Int) t2, .int (q9 : Int) t3, .ref W] ((W, listOf ys.toArray c) :: own) True
      (fun v n' => ∃ D l c', v = .ref D ∧ l.map (fun e : RowE => (e.a, e.b)) = rowL size p9 q9 ∧ n' = (D, listOf (rowRefs l).toArray c') :: (rowLed l ++ (W, listOf ys.toArray c) :: own)) := by
  unfold Ct
  k_fill
  intro p loose mean mg mb dp un gd env outer A₀ base h₀ L m s Q E B F X N T hf hk hdp hun htk hx hret
  refine codeAny_with_toks htk ?_
  k_dflt ktr_enter
  k_steps
  rename News _ _ _ _ => N9
  refine' compAt_range (n := size) (RowJ own size p9 q9 _ _ _ _ _) ?hh ?hr ?sm ?rs ?F ?N ?hz ?hj ?turn ?fin
  case N => exact N9
  case hj => exact ⟨[], rfl, rfl, by rw [show rowLed [] = [] from rfl, List.append_nil]⟩
  case hh => exact rfl
  case hr => k_asm
  case sm => exact small_one (by decide) (by decide) (by omega) (by omega)
  case rs => rw [rangeSize_one]; split <;> omega
  case F => k_asm
  case hz => rw [sizeLine_eq]; omega
  case turn =>
    rintro i zs nw t I oI C oC D m₂ h tk g E' hi ⟨l, rfl, hl, rfl⟩ hO hmx F N off ne
    have hi0 : (0 : Int) + (i : Int) = (i : Int) := by omega
    rw [hi0] at hmx
    k_steps
    have e1 : ((size : Int) - (i : Int)).toNat = size - i := by omega
    have e2 : ((i : Int)).toNat = i := rfl
    have e3 : ((size : Int) - (i : Int) - 1).toNat = size - i - 1 := by omega
    have e4 : ((i : Int) + 1).toNat = i + 1 := rfl
    rename News _ _ _ (_ :: (I, _) :: _) => N7
    rw [e1, e2, e3, e4] at N7
    refine' row_end (l := l) (e := ⟨_, (rowAt size p9 q9 i).1, (rowAt size p9 q9 i).2, _, _⟩) rfl ?o ?F N7 off ?h1 ?h2 ?h3 ⟨l ++ [_], ?r1, ?r2, rfl⟩
    case F => k_asm
    case o => exact rfl
    case h1 => with_reducible assumption
    case h2 => with_reducible assumption
    case h3 => with_reducible assumption
    case r1 => unfold rowRefs; rw [List.map_append]; rfl
    case r2 => rw [List.map_append, hl, List.range_succ, List.map_append]; rfl
  case fin =>
    rintro g zs nw ⟨l, rfl, hl, rfl⟩ D₂ h tk F N off
    dsimp only
    k_steps
    rename News h₀ _ _ _ => N8
    refine hret _ _ _ _ (by k_asm) (fun p hp => N8 p ?_) (by assumption) ⟨_, l, (rowRefs l).length, rfl, hl, rfl⟩
    rcases List.mem_cons.mp hp with rfl | hp
    · exact .head _
    · rcases List.mem_append.mp hp with hp | hp
      · exact .tail _ (.tail _ (.tail _ (.tail _ (.tail _ (.tail _ (List.mem_append_right _ hp))))))
      · rcases List.mem_cons.mp hp with rfl | hp
        · exact .tail _ (.tail _ (.tail _ (.tail _ (.tail _ (.head _)))))
        · exact .tail _ (.tail _ (.tail _ (.tail _ (.tail _ (.tail _ (List.mem_append_left _ hp))))))
end Mine
end SRw1
end WalkC
section STn1
namespace Mine
theorem fresh20 : True := by
  w_top off
  trivial
end Mine
open PySem PySem.W PyProof.Rows PySem.Calls
set_option Elab.async false
set_option maxRecDepth 100000
set_option maxHeartbeats 8000000
set_option pp.maxSteps 400
set_option autoImplicit false
namespace Mine
theorem ct_pushL (w : World) (a : LexA) (ok : LexOk w a) (line : Int) (u : Tok) (qs : List (PySem.Str × Tok)) (nq ny : Nat) (ys : List (PySem.Str × Tok)) (own : List (Addr × Obj)) (hoff : OwnOff own a.adrs) (x : PySem.Str) (t : Tok) :
    Ct w 20 200 66 [.ref a.x, .str x t] (lexLed a line u qs nq ys ny ++ own) (qs.length ≤ 100000) (fun r n' => r = .none ∧ n' = lexLed a line u (qs ++ [(x, t)]) (nq + 1) ys ny ++ own) := by
  obtain ⟨⟨h1, h2, h3, h4, h5, h6, h7, h8⟩, ⟨g1, g2, g3, g4, g5, g6, g7, g8⟩, _⟩ := nd9 ok.nd
  have hnd := (List.pairwise_cons.mp ok.nd).1
  have e1 := hnd _ (.head _)
  have e2 := hnd _ (.tail _ (.head _))
  have e3 := hnd _ (.tail _ (.tail _ (.head _)))
  have e4 := hnd _ (.tail _ (.tail _ (.tail _ (.head _))))
  have e5 := hnd _ (.tail _ (.tail _ (.tail _ (.tail _ (.head _)))))
  have e6 := hnd _ (.tail _ (.tail _ (.tail _ (.tail _ (.tail _ (.head _))))))
  have e7 := hnd _ (.tail _ (.tail _ (.tail _ (.tail _ (.tail _ (.tail _ (.head _)))))))
  have e8 := hnd _ (.tail _ (.tail _ (.tail _ (.tail _ (.tail _ (.tail _ (.tail _ (.head _))))))))
  have C := ct_push w (.str x t) a.x a.dx a.pb a.d line u (.ref a.tape) (strValues qs) nq ((a.tape, instObj 69 a.dt) :: (a.dt, tapeDict a.e a.v1 a.v2 a.v3 a.v4 a.lam) :: (a.lam, a.LO) :: (a.cc, a.CO) :: (a.cell, a.SO) :: (a.sg, listOf (strValues ys).toArray ny) :: own)
  intro p loose mean mg mb dp un gd env outer A₀ base h₀ L m s Q E B F X N T hf hk hdp hun htk hx hret
  refine C p loose mean mg mb dp un gd env outer A₀ base h₀ L m s Q E B F X N T hf hk hdp hun htk ⟨by simpa [strValues] using hx, ?_, e1, e2, g2⟩ fun r h' tk' n' F' N' ht' hP => ?_
  · have key : ∀ z : Addr, a.x ≠ z → z ≠ a.dx → z ≠ a.pb → ∀ b ∈ [a.x, a.dx, a.pb], z ≠ b := by
      intro z z1 z2 z3 b hb
      simp only [List.mem_cons, List.not_mem_nil, or_false] at hb
      rcases hb with rfl | rfl | rfl
      · exact Ne.symm z1
      · exact z2
      · exact z3
    exact off_cons (key _ e3 h3 g3) (off_cons (key _ e4 h4 g4) (off_cons (key _ e5 h5 g5) (off_cons (key _ e6 h6 g6) (off_cons (key _ e7 h7 g7) (off_cons (key _ e8 h8 g8) (off_sub hoff (by simp)))))))
  · obtain ⟨rfl, rfl⟩ := hP
    have e : strValues qs ++ [.str x t] = strValues (qs ++ [(x, t)]) := by simp [strValues]
    rw [e] at N'
    exact hret .none h' tk' _ F' N' ht' ⟨rfl, rfl⟩
end Mine
namespace Mine
theorem ct_countsW (w : World) (k : Nat) (hk5 : k < 5) (cs : List Nat) (hcs : plainCs cs) (D n wr : Nat) (t : Tok) (hD : D ≤ 1000) (hn : n ≤ 900) (hw : wr ≤ 1000) (own : List (Addr × Obj)) :
    Ct w 20 200 170 [.str (S (wordOf D (n + 1) cs (nmTab (k : Int)) wr)) t] own True (fun v n' => ∃ T t u, v = .ref T ∧ n' = (T, pairObj (D : Int) ((n + 1 : Nat) : Int) t u) :: own) :=
  ct_counts w D n (cs.flatMap (spell (nmTab (k : Int)) wr)) t (spells_head k wr cs hcs) (Nat.le_trans (word_len k D (n + 1) wr cs hcs hD (by omega) hw) (by decide)) own
end Mine
end STn1
section WalkF
local macro_rules | `(tactic| walk_at "exec For") => `(tactic| (k_here; k_dflt (refine Mine.forWT (by k_asm) (by first | assumption | (dsimp only; omega)) (fun _ => rfl) ?_)))
section STm1
namespace Mine
theorem fresh21 : True := by
  w_top off
  trivial
end Mine
open PySem PySem.W PyProof.Rows PySem.Calls
set_option Elab.async false
set_option maxRecDepth 100000
set_option maxHeartbeats 8000000
set_option pp.maxSteps 400
set_option autoImplicit false
namespace Mine
theorem Fr_ch {h₀ h : Heap} {L : Addr} {m : PySem.Str → Option Value} {x1 : PySem.Str} {v1 : Value} (F : Fr h₀ L h m) (h1 : m x1 = some v1) : Fr h₀ L h (fun y => if y = x1 then some v1 else m y) := Fr_chain [(x1, v1)] F (by simp only [List.forall_mem_cons]; exact ⟨h1, fun _ h => nomatch h⟩)
theorem Fr_ch2 {h₀ h : Heap} {L : Addr} {m : PySem.Str → Option Value} (x1 x2 : PySem.Str) {v1 v2 : Value} (F : Fr h₀ L h m) (h1 : m x1 = some v1) (h2 : m x2 = some v2) :
    Fr h₀ L h (fun y => if y = x1 then some v1 else if y = x2 then some v2 else m y) :=
  Fr_chain [(x1, v1), (x2, v2)] F (by simp only [List.forall_mem_cons]; exact ⟨h1, h2, fun _ h => nomatch h⟩)
theorem Fr_ch4 {h₀ h : Heap} {L : Addr} {m : PySem.Str → Option Value} (x1 x2 x3 x4 : PySem.Str) {v1 v2 v3 v4 : Value} (F : Fr h₀ L h m) (h1 : m x1 = some v1) (h2 : m x2 = some v2) (h3 : m x3 = some v3) (h4 : m x4 = some v4) :
    Fr h₀ L h (fun y => if y = x1 then some v1 else if y = x2 then some v2 else if y = x3 then some v3 else if y = x4 then some v4 else m y) :=
  Fr_chain [(x1, v1), (x2, v2), (x3, v3), (x4, v4)] F (by simp only [List.forall_mem_cons]; exact ⟨h1, h2, h3, h4, fun _ h => nomatch h⟩)
theorem Fr_ch5 {h₀ h : Heap} {L : Addr} {m : PySem.Str → Option Value} (x1 x2 x3 x4 x5 : PySem.Str) {v1 v2 v3 v4 v5 : Value} (F : Fr h₀ L h m) (h1 : m x1 = some v1) (h2 : m x2 = some v2) (h3 : m x3 = some v3) (h4 : m x4 = some v4) (h5 : m x5 = some v5) :
    Fr h₀ L h (fun y => if y = x1 then some v1 else if y = x2 then some v2 else if y = x3 then some v3 else if y = x4 then some v4 else if y = x5 then some v5 else m y) :=
  Fr_chain [(x1, v1), (x2, v2), (x3, v3), (x4, v4), (x5, v5)] F (by simp only [List.forall_mem_cons]; exact ⟨h1, h2, h3, h4, h5, fun _ h => nomatch h⟩)
/-- the maps agree off these names -/
def AgOff (xs : List PySem.Str) (m m' : PySem.Str → Option Value) : Prop := ∀ y, y ∉ xs → m' y = m y
theorem AgOff.get {xs : List PySem.Str} {m m' : PySem.Str → Option Value} (h : AgOff xs m m') {y : PySem.Str} {v : Value} (hv : m y = some v) (hy : y ∉ xs := by decide) : m' y = some v := (h y hy).trans hv
theorem AgOff.refl (xs : List PySem.Str) (m : PySem.Str → Option Value) : AgOff xs m m := fun _ _ => rfl
theorem AgOff.trans {xs : List PySem.Str} {m m' m'' : PySem.Str → Option Value} (h : AgOff xs m m') (h' : AgOff xs m' m'') : AgOff xs m m'' := fun y hy => (h' y hy).trans (h y hy)
theorem AgOff.sub {xs ys : List PySem.Str} {m m' : PySem.Str → Option Value} (h : AgOff xs m m') (hs : ∀ x ∈ xs, x ∈ ys) : AgOff ys m m' := fun y hy => h y fun hx => hy (hs y hx)
theorem AgOff.set {xs : List PySem.Str} {m m' : PySem.Str → Option Value} {x : PySem.Str} {v : Value} (h : AgOff xs m m') (hx : x ∈ xs := by decide) : AgOff xs m (fun y => if y = x then some v else m' y) := fun y hy => by
  show (if y = x then some v else m' y) = m y
  rw [if_neg fun e : y = x => hy (e ▸ hx)]; exact h y hy
theorem AgOff.chain {xs : List PySem.Str} {m : PySem.Str → Option Value} {l : List (PySem.Str × Value)} (hl : ∀ p ∈ l, m p.1 = some p.2) : AgOff xs m (Mine.chain l m) := by rw [chain_eq hl]; exact AgOff.refl _ _
theorem AgOff.ch2 {xs : List PySem.Str} {m : PySem.Str → Option Value} {x1 x2 : PySem.Str} {v1 v2 : Value} (h1 : m x1 = some v1) (h2 : m x2 = some v2) : AgOff xs m (fun y => if y = x1 then some v1 else if y = x2 then some v2 else m y) :=
  AgOff.chain (l := [(x1, v1), (x2, v2)]) (by simp only [List.forall_mem_cons]; exact ⟨h1, h2, fun _ h => nomatch h⟩)
theorem AgOff.ch4 {xs : List PySem.Str} {m : PySem.Str → Option Value} {x1 x2 x3 x4 : PySem.Str} {v1 v2 v3 v4 : Value} (h1 : m x1 = some v1) (h2 : m x2 = some v2) (h3 : m x3 = some v3) (h4 : m x4 = some v4) : AgOff xs m (fun y => if y = x1 then some v1 else if y = x2 then some v2 else if y = x3 then some v3 else if y = x4 then some v4 else m y) :=
  AgOff.chain (l := [(x1, v1), (x2, v2), (x3, v3), (x4, v4)]) (by simp only [List.forall_mem_cons]; exact ⟨h1, h2, h3, h4, fun _ h => nomatch h⟩)
theorem AgOff.ch5 {xs : List PySem.Str} {m : PySem.Str → Option Value} {x1 x2 x3 x4 x5 : PySem.Str} {v1 v2 v3 v4 v5 : Value} (h1 : m x1 = some v1) (h2 : m x2 = some v2) (h3 : m x3 = some v3) (h4 : m x4 = some v4) (h5 : m x5 = some v5) : AgOff xs m (fun y => if y = x1 then some v1 else if y = x2 then some v2 else if y = x3 then some v3 else if y = x4 then some v4 else if y = x5 then some v5 else m y) :=
  AgOff.chain (l := [(x1, v1), (x2, v2), (x3, v3), (x4, v4), (x5, v5)]) (by simp only [List.forall_mem_cons]; exact ⟨h1, h2, h3, h4, h5, fun _ h => nomatch h⟩)
theorem newsEq {h₀ h : Heap} {L : Addr} {l l' : List (Addr × Obj)} (N : News h₀ L h l) (e : l = l') : News h₀ L h l' := e ▸ N
end Mine
local macro_rules | `(tactic| walk_at "call builtin:list.append") => `(tactic| (k_here; (with_reducible show wpAny _ _ (call (Value.builtin _) [Value.ref _, _]) _ _ _); k_dflt (refine' append_K (by k_asm) (by k_asm) ?k ?_ ?z; (case k => k_upd); (case z => (simp only [strValues, List.size_toArray, List.length_map, sizeLine_eq]; omega)); k_whole); intro _ _ _; (try (dsimp only; (with_reducible refine Mine.gentoks2 ?hX9 ?_); (case hX9 => first | assumption | (dsimp only; omega)); intro _ _)); (try k_sweep)))
local macro_rules | `(tactic| walk_at "call ref") => `(tactic| (k_here; (k_dflt (show wpAny _ _ (call (Value.ref 59) [Value.ref _]) _ _ _)); k_dflt (refine' Mine.ct_useA (Mine.ct_get _ _ (by assumption) _ _ _ _ _ _ _ _ ?hoff _ ?hq) trivial ?_; (case hoff => first | assumption | exact Mine.off_cons (by assumption) (by assumption)); (case hq => first | assumption | omega); k_whole; intro _ _ _ _ _ N' _ hp9; obtain ⟨e1, e2⟩ := hp9; subst e1; subst e2; (try k_sweep); (try dsimp only [Mine.lexLed, List.cons_append, List.nil_append] at N'))))
local macro_rules | `(tactic| walk_at "call ref") => `(tactic| (k_here; (k_dflt (show wpAny _ _ (call (Value.ref 66) [Value.ref _, Value.str _ _]) _ _ _)); k_dflt (refine' Mine.ct_useA (Mine.ct_pushL _ _ (by assumption) _ _ _ _ _ _ _ ?hoff _ _) ?hp ?_; (case hoff => first | assumption | exact Mine.off_cons (by assumption) (by assumption)); (case hp => first | assumption | omega | (simp only [List.length_append, List.length_cons, List.length_nil]; omega)); k_whole; intro _ _ _ _ _ N' _ hp9; obtain ⟨e1, e2⟩ := hp9; subst e1; subst e2; (try k_sweep); (try dsimp only [Mine.lexLed, List.cons_append, List.nil_append] at N'))))
local macro_rules | `(tactic| walk_at "call ref") => `(tactic| (k_here; (k_dflt (show wpAny _ _ (call (Value.ref 170) [Value.str _ _]) _ _ _)); k_dflt (refine' Mine.ct_useA (Mine.ct_countsW _ _ (by assumption) _ (by assumption) _ _ _ _ ?hD ?hn ?hw _) trivial ?_; (case hD => omega); (case hn => omega); (case hw => omega); k_whole; intro _ _ _ _ _ N' _ hp9; obtain ⟨_, _, _, e1, e2⟩ := hp9; subst e1; subst e2; (try k_sweep); (try dsimp only [Mine.lexLed, List.cons_append, List.nil_append] at N'))))
namespace Mine
def body11 (P : Program) : Option (Scope × List Stmt) := match lawSt P 11 with
  | some (sc, .For _ _ b _ _) => some (sc, b)
  | _ => none
def turnNames : List PySem.Str := ["word", "dots", "amps", "written", "again", "sent"]
end Mine
namespace Mine
section
variable {w : World} {p : Program} {loose : List Str} {mean : ExcName → Option Value} {mg mb : Str → Option Value} {dp un : Nat} {gd : Option (List Code)} {outer : List Env} {A₀ : Around} {base h₀ : Heap} {L : Addr} {s : Shared} {E : Value → Shared → Prop} {Q : Flow → Shared → Prop} {m : PySem.Str → Option Value} {news : List (Addr × Obj)} {sc : Scope} {st : Stmt} {qn : PySem.Str} {a : Addr} {cd : Value}
theorem loopWord {k D n wr : Nat} {cs : List Nat} {t1 t2 : Tok}
    (hret : ∀ h' tk' m' t', 1 ≤ tk' → Fr h₀ L h' m' → News h₀ L h' news → m' ("written" : PySem.Str) = some (.str (S (wordOf D (n + 1 + D) cs (nmTab (k : Int)) (wr + D))) t') → AgOff ["written", "again"] m m' → Q .next { s with heap := h', toks := tk' })
    (F : Fr h₀ L s.heap m) (N : News h₀ L s.heap news) (B : Below A₀ base outer h₀) (X : (hd.heap_39 w.params).In h₀) (T : Top p loose mean mg mb h₀) (hdp : dp + 60 < recursionLimit) (hu : un + 600 < cLine) (ht : 1 ≤ s.toks) (hst : innerSt PySem.Challenge.rw_rw0051_01.row.prog 2 = some (sc, st)) (h1 : m ("dots" : PySem.Str) = some (.int (D : Int) t1)) (h2 : m ("written" : PySem.Str) = some (.str (S (wordOf D (n + 1) cs (nmTab (k : Int)) wr)) t2)) (h3 : m ("write" : PySem.Str) = some (.ref (escFn k))) (hk5 : k < 5) (hcs : plainCs cs) (hD : D ≤ 100) (hn : n ≤ 100) (hwr : wr ≤ 100) :
    wpAny (model PySem.Challenge.rw_rw0051_01.row.prog w) (cT dp un gd (envOfC qn sc L a cd) outer) (exec st (envOfC qn sc L a cd)) Q E s :=
  loopW hst k hk5 D (by omega) (fun i => wordOf D (n + 1 + i) cs (nmTab (k : Int)) (wr + i)) (fun i hi => Nat.le_trans (word_len k _ _ _ cs hcs (by omega) (by omega) (by omega)) (by decide))
    (fun i => word_written (agree k hk5) D (n + 1 + i) (wr + i) (by omega) cs (fun h => (hcs.2 10 h).1 rfl) (fun h => (hcs.2 13 h).2.1 rfl)) t1 t2 F N B X T hdp hu ht h1 h2 h3
    fun h' tk' m' t' ht' F' N' hw hag => hret h' tk' m' t' ht' F' N' hw fun y hy => hag y (fun e => hy (by rw [e]; decide)) (fun e => hy (by rw [e]; decide))
theorem loopSent {k D n wr : Nat} {cs : List Nat} {t1 t2 : Tok}
    (hret : ∀ h' tk' m' t', 1 ≤ tk' → Fr h₀ L h' m' → News h₀ L h' news → m' ("sent" : PySem.Str) = some (.str (S (wordOf (D + (n + 1)) (n + 1) cs (nmTab (k : Int)) wr)) t') → AgOff ["sent", "again"] m m' → Q .next { s with heap := h', toks := tk' })
    (F : Fr h₀ L s.heap m) (N : News h₀ L s.heap news) (B : Below A₀ base outer h₀) (X : (hd.heap_39 w.params).In h₀) (T : Top p loose mean mg mb h₀) (hdp : dp + 60 < recursionLimit) (hu : un + 600 < cLine) (ht : 1 ≤ s.toks) (hst : innerSt PySem.Challenge.rw_rw0051_01.row.prog 5 = some (sc, st)) (h1 : m ("amps" : PySem.Str) = some (.int ((n + 1 : Nat) : Int) t1)) (h2 : m ("sent" : PySem.Str) = some (.str (S (wordOf D (n + 1) cs (nmTab (k : Int)) wr)) t2)) (hk5 : k < 5) (hcs : plainCs cs) (hD1 : 1 ≤ D) (hD : D ≤ 100) (hn : n ≤ 100) (hwr : wr ≤ 100) :
    wpAny (model PySem.Challenge.rw_rw0051_01.row.prog w) (cT dp un gd (envOfC qn sc L a cd) outer) (exec st (envOfC qn sc L a cd)) Q E s :=
  loopS hst (n + 1) (by omega) (fun i => wordOf (D + i) (n + 1) cs (nmTab (k : Int)) wr) (fun i hi => ⟨Nat.le_trans (word_len k _ _ _ cs hcs (by omega) (by omega) (by omega)) (by decide), word_free k hk5 _ _ _ cs hcs⟩)
    (fun i => qd_word (D + i) n _ (by omega)) t1 t2 F N B X T hdp hu ht h1 h2
    fun h' tk' m' t' ht' F' N' hw hag => hret h' tk' m' t' ht' F' N' hw fun y hy => hag y (fun e => hy (by rw [e]; decide)) (fun e => hy (by rw [e]; decide))
end
end Mine
local macro_rules | `(tactic| walk_at "exec For") => `(tactic| (k_here; k_dflt (refine' Mine.loopWord ?_ (by k_asm) (by k_asm) (by k_asm) (by k_asm) (by k_asm) (by ktr_room) (by ktr_units) (by first | assumption | exact Nat.le_add_left 1 _ | (dsimp only; omega)) (by exact rfl) (by exact rfl) (by exact rfl) (by exact rfl) (by assumption) (by assumption) (by omega) (by omega) (by omega); k_whole; intro _ _ _ _ _ F' _ hw9 hg9; (have hl9 := Mine.AgOff.get (y := "lexer") hg9 rfl); (have ho9 := Mine.AgOff.get (y := "word") hg9 rfl); (have ha9 := Mine.AgOff.get (y := "amps") hg9 rfl); (have hz9 := Mine.AgOff.ch4 (xs := Mine.turnNames) hw9 hl9 ho9 ha9); (have hy9 := Mine.AgOff.sub (ys := Mine.turnNames) hg9 (by decide)); (replace F' := Mine.Fr_ch4 "written" "lexer" "word" "amps" F' hw9 hl9 ho9 ha9); (try dsimp only); (try k_sweep))))
local macro_rules | `(tactic| walk_at "exec For") => `(tactic| (k_here; k_dflt (refine' Mine.loopSent ?_ (by k_asm) (by k_asm) (by k_asm) (by k_asm) (by k_asm) (by ktr_room) (by ktr_units) (by first | assumption | exact Nat.le_add_left 1 _ | (dsimp only; omega)) (by exact rfl) (by exact rfl) (by exact rfl) (by assumption) (by assumption) (by omega) (by omega) (by omega) (by omega); k_whole; intro _ _ _ _ _ F' _ hw9 hg9; (have hl9 := Mine.AgOff.get (y := "lexer") hg9 rfl); (have hz9 := Mine.AgOff.ch2 (xs := Mine.turnNames) hw9 hl9); (have hy9 := Mine.AgOff.sub (ys := Mine.turnNames) hg9 (by decide)); (replace F' := Mine.Fr_ch2 "sent" "lexer" F' hw9 hl9); (try dsimp only); (try k_sweep))))
namespace Mine
theorem turn_end1 {h₀ h : Heap} {L OL : Addr} {X9 : LexA} {line : Int} {u t : Tok} {qs outs ys : List (PySem.Str × Tok)} {p1 p2 : PySem.Str × Tok} {nq ny c : Nat} {x : PySem.Str} {own : List (Addr × Obj)}
    (N : News h₀ L h (lexLed X9 line u (qs ++ [p1] ++ [p2]) nq ys ny ++ (OL, listOf ((strValues outs).toArray.push (.str x t)) c) :: own)) : News h₀ L h (lexLed X9 line u (qs ++ [p1, p2]) nq ys ny ++ (OL, listOf (strValues (outs ++ [(x, t)])).toArray c) :: own) := by
  have e : (strValues outs).toArray.push (.str x t) = (strValues (outs ++ [(x, t)])).toArray := by simp [strValues]
  rw [e, List.append_assoc] at N
  exact N
theorem turn_end2 {h₀ h : Heap} {L OL : Addr} {X9 : LexA} {line : Int} {u t : Tok} {qs outs ys : List (PySem.Str × Tok)} {nq ny c : Nat} {x : PySem.Str} {own : List (Addr × Obj)}
    (N : News h₀ L h (lexLed X9 line u qs nq ys ny ++ (OL, listOf ((strValues outs).toArray.push (.str x t)) c) :: own)) : News h₀ L h (lexLed X9 line u qs nq ys ny ++ (OL, listOf (strValues (outs ++ [(x, t)])).toArray c) :: own) := by
  have e : (strValues outs).toArray.push (.str x t) = (strValues (outs ++ [(x, t)])).toArray := by simp [strValues]
  rw [e] at N
  exact N
section
variable {w : World} {p : Program} {loose : List Str} {mean : ExcName → Option Value} {mg mb : Str → Option Value} {dp un : Nat} {gd : Option (List Code)} {outer : List Env} {A₀ : Around} {base h₀ : Heap} {L : Addr} {s : Shared} {E : Value → Shared → Prop} {Q : Flow → Shared → Prop} {m : PySem.Str → Option Value} {news : List (Addr × Obj)} {sc : Scope} {body : List Stmt} {qn : PySem.Str} {a : Addr} {cd : Value}
theorem turn11 (hst : body11 PySem.Challenge.rw_rw0051_01.row.prog = some (sc, body)) (k : Nat) (hk5 : k < 5) (g i : Nat) (hg : g ≤ 7) (hi : i ≤ 100) (cs : List Nat) (hcs : plainCs cs) (D n wr : Nat) (hD : 1 ≤ D) (hD2 : D ≤ 100) (hn : n ≤ 100) (hwr : wr ≤ 100)
    (X9 : LexA) (ok : LexOk w X9) (line : Int) (u : Tok) (tq : Tok) (qs : List (PySem.Str × Tok)) (nq ny : Nat) (ys : List (PySem.Str × Tok)) (hqs : qs.length ≤ 100) (OL : Addr) (outs : List (PySem.Str × Tok)) (c : Nat) (houts : outs.length ≤ 100) (own : List (Addr × Obj)) (hoff : OwnOff own X9.adrs) (hO : OwnOff own [OL]) (hadr : ∀ b ∈ X9.adrs, OL ≠ b)
    (F : Fr h₀ L s.heap m) (N : News h₀ L s.heap (lexLed X9 line u ((S (wordOf D (n + 1) cs (nmTab (k : Int)) wr), tq) :: qs) nq ys ny ++ (OL, listOf (strValues outs).toArray c) :: own)) (B : Below A₀ base outer h₀) (X : (hd.heap_39 w.params).In h₀) (T : Top p loose mean mg mb h₀) (hdp : dp + 60 < recursionLimit) (hu : un + 600 < cLine) (ht : 1 ≤ s.toks) (t1 t2 : Tok)
    (h1 : m ("turn" : PySem.Str) = some (.int (i : Int) t1)) (h2 : m ("growing" : PySem.Str) = some (.int (g : Int) t2)) (h3 : m ("lexer" : PySem.Str) = some (.ref X9.x)) (h4 : m ("out" : PySem.Str) = some (.ref OL)) (h5 : m ("write" : PySem.Str) = some (.ref (escFn k)))
    (hret : ∀ h' tk' m' t5 t6 nq' c', 1 ≤ tk' → Fr h₀ L h' m' → AgOff turnNames m m' →
      News h₀ L h' (lexLed X9 line u (if i < g then qs ++ [(S (wordOf D (n + 1 + D) cs (nmTab (k : Int)) (wr + D)), t5), (S (wordOf (D + (n + 1)) (n + 1) cs (nmTab (k : Int)) wr), t6)] else qs) nq' ys ny ++ (OL, listOf (strValues (outs ++ [(S (wordOf D (n + 1) cs (nmTab (k : Int)) wr), tq)])).toArray c') :: own) → Q .next { s with heap := h', toks := tk' }) :
    wpAny (model PySem.Challenge.rw_rw0051_01.row.prog w) (cT dp un gd (envOfC qn sc L a cd) outer) (execs body (envOfC qn sc L a cd)) Q E s := by
  have e : body11 PySem.Challenge.rw_rw0051_01.row.prog = some (_, _) := rfl
  rw [e] at hst
  cases hst
  clear e
  revert X
  k_fill
  intro X
  have n1 : @Ne Nat X9.x OL := Ne.symm (hadr _ (by simp))
  have n2 : @Ne Nat X9.dx OL := Ne.symm (hadr _ (by simp))
  have n3 : @Ne Nat X9.pb OL := Ne.symm (hadr _ (by simp))
  have n4 : @Ne Nat X9.tape OL := Ne.symm (hadr _ (by simp))
  have n5 : @Ne Nat X9.dt OL := Ne.symm (hadr _ (by simp))
  have n6 : @Ne Nat X9.lam OL := Ne.symm (hadr _ (by simp))
  have n7 : @Ne Nat X9.cc OL := Ne.symm (hadr _ (by simp))
  have n8 : @Ne Nat X9.cell OL := Ne.symm (hadr _ (by simp))
  have n9 : @Ne Nat X9.sg OL := Ne.symm (hadr _ (by simp))
  have hoff2 : OwnOff ((OL, listOf (strValues outs).toArray c) :: own) X9.adrs := off_cons hadr hoff
  have hz0 := AgOff.ch5 (xs := turnNames) h1 h2 h3 h4 h5
  replace F := Fr_ch5 "turn" "growing" "lexer" "out" "write" F h1 h2 h3 h4 h5
  dsimp only [lexLed, List.cons_append, List.nil_append] at N
  k_steps
  · have hlt : i < g := by omega
    simp only [if_pos hlt] at hret
    exact hret _ _ _ _ _ _ _ (by assumption) (by k_asm) (by repeat (first | exact AgOff.refl _ _ | exact hz0 | refine AgOff.trans ?_ (by assumption) | refine AgOff.set ?_ (by decide))) (turn_end1 (by k_asm))
  · have hlt : ¬ i < g := by omega
    simp only [if_neg hlt] at hret
    exact hret _ _ _ tq tq _ _ (by assumption) (by k_asm) (by repeat (first | exact AgOff.refl _ _ | exact hz0 | refine AgOff.trans ?_ (by assumption) | refine AgOff.set ?_ (by decide))) (turn_end2 (by k_asm))
end
end Mine
end STm1
section SSb1
local macro_rules | `(tactic| walk_at "z") => `(tactic| skip)
namespace Mine
theorem fresh22 : True := by
  w_top off
  trivial
end Mine
open PySem PySem.W PyProof.Rows PySem.Calls
set_option Elab.async false
set_option maxRecDepth 100000
set_option maxHeartbeats 8000000
set_option pp.maxSteps 400
set_option autoImplicit false
namespace Mine
theorem led_all {X9 : LexA} {line : Int} {u : Tok} {qs ys : List (PySem.Str × Tok)} {nq ny : Nat} {own : List (Addr × Obj)} {P : Addr → Prop} (h1 : ∀ b ∈ X9.adrs, P b) (h2 : ∀ p ∈ own, P p.1) : ∀ p ∈ lexLed X9 line u qs nq ys ny ++ own, P p.1 := by
  intro p hp
  rcases List.mem_append.mp hp with hp | hp
  · repeat (rcases List.mem_cons.mp hp with rfl | hp; · exact h1 _ (by repeat first | exact List.Mem.head _ | refine List.Mem.tail _ ?_))
    cases hp
  · exact h2 p hp
theorem led_adr {X9 : LexA} {line : Int} {u : Tok} {qs ys : List (PySem.Str × Tok)} {nq ny : Nat} {own : List (Addr × Obj)} {P : Addr → Prop} (h : ∀ p ∈ lexLed X9 line u qs nq ys ny ++ own, P p.1) : (∀ b ∈ X9.adrs, P b) ∧ ∀ p ∈ own, P p.1 := by
  refine ⟨fun b hb => ?_, fun p hp => h p (List.mem_append_right _ hp)⟩
  have key : ∀ o, (b, o) ∈ lexLed X9 line u qs nq ys ny → P b := fun o ho => h _ (List.mem_append_left _ ho)
  simp only [LexA.adrs, List.mem_cons, List.not_mem_nil, or_false] at hb
  rcases hb with rfl | rfl | rfl | rfl | rfl | rfl | rfl | rfl | rfl
  · exact key _ (.head _)
  · exact key _ (.tail _ (.head _))
  · exact key _ (.tail _ (.tail _ (.head _)))
  · exact key _ (.tail _ (.tail _ (.tail _ (.head _))))
  · exact key _ (.tail _ (.tail _ (.tail _ (.tail _ (.head _)))))
  · exact key _ (.tail _ (.tail _ (.tail _ (.tail _ (.tail _ (.head _))))))
  · exact key _ (.tail _ (.tail _ (.tail _ (.tail _ (.tail _ (.tail _ (.head _)))))))
  · exact key _ (.tail _ (.tail _ (.tail _ (.tail _ (.tail _ (.tail _ (.tail _ (.head _))))))))
  · exact key _ (.tail _ (.tail _ (.tail _ (.tail _ (.tail _ (.tail _ (.tail _ (.tail _ (.head _)))))))))
/-- a node's word -/
def nw (c0 c1 : List Nat) (k : Nat) (n : Nd) : List Nat := wordOf n.2.1 n.2.2.1 (if n.1 = 0 then c0 else c1) (nmTab (k : Int)) n.2.2.2
theorem sim_all {g p1 q1 p2 q2 : Nat} (hg : 2 ≤ g ∧ g ≤ 7) (h1 : 1 ≤ p1 ∧ p1 ≤ 3) (h2 : 1 ≤ q1 ∧ q1 ≤ 3) (h3 : 1 ≤ p2 ∧ p2 ≤ 3) (h4 : 1 ≤ q2 ∧ q2 ≤ 3) : okSim g p1 q1 p2 q2 = true := by
  have key : ∀ {l : List Nat} {f : Nat → Bool}, l.all f = true → ∀ x ∈ l, f x = true := fun h x hx => List.all_eq_true.mp h x hx
  have a3 : ∀ x : Nat, 1 ≤ x ∧ x ≤ 3 → x ∈ [1, 2, 3] := by
    intro x hx
    simp only [List.mem_cons, List.not_mem_nil, or_false]; omega
  exact key (key (key (key (key okSim_all g (by simp only [List.mem_cons, List.not_mem_nil, or_false]; omega)) p1 (a3 _ h1)) q1 (a3 _ h2)) p2 (a3 _ h3)) q2 (a3 _ h4)
theorem sim_end {g p1 q1 p2 q2 : Nat} (h : okSim g p1 q1 p2 q2 = true) : simS g [(0, p1, q1, 0), (1, p2, q2, 0)] (2 * g + 2) = ((dueN p1 q1 p2 q2).take (2 * g + 2), []) := by
  unfold okSim at h
  rw [Bool.and_eq_true, decide_eq_true_eq] at h
  exact h.1
theorem sim_at {g p1 q1 p2 q2 : Nat} (h : okSim g p1 q1 p2 q2 = true) {i : Nat} (hi : i < 2 * g + 2) : ∃ outs nd r, simS g [(0, p1, q1, 0), (1, p2, q2, 0)] i = (outs, nd :: r) ∧ r.length ≤ 20 ∧ outs.length = i ∧ nd.1 < 2 ∧ 1 ≤ nd.2.1 ∧ nd.2.1 ≤ 100 ∧ 1 ≤ nd.2.2.1 ∧ nd.2.2.1 ≤ 100 ∧ nd.2.2.2 ≤ 100 := by
  unfold okSim at h
  rw [Bool.and_eq_true] at h
  have := List.all_eq_true.mp h.2 i (List.mem_range.mpr hi)
  dsimp only at this
  generalize simS g [(0, p1, q1, 0), (1, p2, q2, 0)] i = st at this ⊢
  obtain ⟨o, q⟩ := st
  rcases q with _ | ⟨nd, r⟩
  · simp at this
  · simp only [Bool.and_eq_true, decide_eq_true_eq, List.all_eq_true, List.length_cons, okNd] at this
    obtain ⟨⟨⟨_, h2⟩, h3⟩, h4⟩ := this
    have h5 := h4 nd (.head _)
    exact ⟨o, nd, r, rfl, by omega, h3, by omega, by omega, by omega, by omega, by omega, by omega⟩
def bodyNames : List PySem.Str := "turn" :: turnNames
section
variable {w : World} {p : Program} {loose : List Str} {mean : ExcName → Option Value} {mg mb : Str → Option Value} {dp un : Nat} {gd : Option (List Code)} {outer : List Env} {A₀ : Around} {base h₀ : Heap} {L : Addr} {s : Shared} {E : Value → Shared → Prop} {Q : Flow → Shared → Prop} {m : PySem.Str → Option Value} {sc : Scope} {st : Stmt} {qn : PySem.Str} {a : Addr} {cd : Value}
theorem st11 (hst : lawSt PySem.Challenge.rw_rw0051_01.row.prog 11 = some (sc, st)) (k : Nat) (hk5 : k < 5) (g p1 q1 p2 q2 : Nat) (hg : 2 ≤ g ∧ g ≤ 7) (hp1 : 1 ≤ p1 ∧ p1 ≤ 3) (hq1 : 1 ≤ q1 ∧ q1 ≤ 3) (hp2 : 1 ≤ p2 ∧ p2 ≤ 3) (hq2 : 1 ≤ q2 ∧ q2 ≤ 3) (c0 c1 : List Nat) (hc0 : plainCs c0) (hc1 : plainCs c1)
    (X9 : LexA) (ok : LexOk w X9) (line : Int) (u tq1 tq2 : Tok) (nq ny : Nat) (ys : List (PySem.Str × Tok)) (OL : Addr) (c : Nat) (own : List (Addr × Obj)) (hoff : OwnOff own X9.adrs) (hO : OwnOff own [OL]) (hadr : ∀ b ∈ X9.adrs, OL ≠ b)
    (F : Fr h₀ L s.heap m) (N : News h₀ L s.heap (lexLed X9 line u [(S (nw c0 c1 k (0, p1, q1, 0)), tq1), (S (nw c0 c1 k (1, p2, q2, 0)), tq2)] nq ys ny ++ (OL, listOf (strValues []).toArray c) :: own)) (B : Below A₀ base outer h₀) (X : (hd.heap_39 w.params).In h₀) (T : Top p loose mean mg mb h₀) (hdp : dp + 60 < recursionLimit) (hu : un + 600 < cLine) (ht : 1 ≤ s.toks) (t2 : Tok)
    (h2 : m ("growing" : PySem.Str) = some (.int (g : Int) t2)) (h3 : m ("lexer" : PySem.Str) = some (.ref X9.x)) (h4 : m ("out" : PySem.Str) = some (.ref OL)) (h5 : m ("write" : PySem.Str) = some (.ref (escFn k)))
    (hret : ∀ h' tk' m' outs nq' c', 1 ≤ tk' → Fr h₀ L h' m' → AgOff bodyNames m m' → outs.map (·.1) = ((dueN p1 q1 p2 q2).take (2 * g + 2)).map (fun n => S (nw c0 c1 k n)) → News h₀ L h' (lexLed X9 line u [] nq' ys ny ++ (OL, listOf (strValues outs).toArray c') :: own) → Q .next { s with heap := h', toks := tk' }) :
    wpAny (model PySem.Challenge.rw_rw0051_01.row.prog w) (cT dp un gd (envOfC qn sc L a cd) outer) (exec st (envOfC qn sc L a cd)) Q E s := by
  have e : lawSt PySem.Challenge.rw_rw0051_01.row.prog 11 = some (_, _) := rfl
  rw [e] at hst
  cases hst
  clear e
  revert X
  k_fill
  intro X
  have ok9 := sim_all hg hp1 hq1 hp2 hq2
  have hch : AgOff bodyNames m (fun y => if y = ("growing" : PySem.Str) then some (.int (g : Int) t2) else if y = ("lexer" : PySem.Str) then some (.ref X9.x) else if y = ("out" : PySem.Str) then some (.ref OL) else if y = ("write" : PySem.Str) then some (.ref (escFn k)) else m y) := AgOff.ch4 h2 h3 h4 h5
  replace F := Fr_ch4 "growing" "lexer" "out" "write" F h2 h3 h4 h5
  k_steps
  intro ht9
  have hlen2 : ((2 : Int) * (g : Int) + 2) = ((2 * g + 2 : Nat) : Int) := by omega
  refine' forAt_range (n := 2 * g + 2) (fun i m' n' => ∃ outs qs nq c, AgOff bodyNames m m' ∧ outs.map (·.1) = (simS g [(0, p1, q1, 0), (1, p2, q2, 0)] i).1.map (fun n => S (nw c0 c1 k n)) ∧ qs.map (·.1) = (simS g [(0, p1, q1, 0), (1, p2, q2, 0)] i).2.map (fun n => S (nw c0 c1 k n)) ∧
    n' = lexLed X9 line u qs nq ys ny ++ (OL, listOf (strValues outs).toArray c) :: own) ?hh ?hr ?sm ?rs ?F ?N ?ht ?hj ?turn ?done
  case hh => exact rfl
  case hr => k_asm
  case sm => exact small_one (by decide) (by decide) (by omega) (by omega)
  case rs => rw [rangeSize_one]; split <;> omega
  case F => k_asm
  case N => k_asm
  case ht => exact ht9
  case hj => exact ⟨[], _, nq, c, hch, rfl, rfl, rfl⟩
  case turn =>
    rintro I oI i t m₁ news₁ h tk E' hI hi ⟨outs, qs, nq1, c1', hag, houts, hqs, rfl⟩ htk F N off
    obtain ⟨os, nd, r, hsim, hr20, hos, hn1, hD1, hD2, hA1, hA2, hw2⟩ := sim_at ok9 hi
    rw [hsim] at houts hqs
    obtain ⟨n, hn⟩ : ∃ n, nd.2.2.1 = n + 1 := ⟨nd.2.2.1 - 1, by omega⟩
    rcases qs with _ | ⟨⟨x, tq⟩, qs⟩
    · cases hqs
    obtain ⟨hx, hqs9⟩ := List.cons.inj hqs
    replace hqs : qs.map (·.1) = r.map (fun n => S (nw c0 c1 k n)) := hqs9
    have hlq : qs.length = r.length := by have := congrArg List.length hqs; simpa using this
    have hlo : outs.length = os.length := by have := congrArg List.length houts; simpa using this
    dsimp only at hx
    subst hx
    have hIa := led_adr (P := fun b => b < I) hI
    rw [show (0 : Int) + (i : Int) = (i : Int) by omega]
    refine wpAny_assign_Name ?_
    walk1
    have hcs : plainCs (if nd.1 = 0 then c0 else c1) := by split; (· exact hc0); (· exact hc1)
    refine turn11 (by rfl) k hk5 g i (by omega) (by omega) (if nd.1 = 0 then c0 else c1) hcs nd.2.1 n nd.2.2.2 hD1 hD2 (by omega) hw2 X9 ok line u tq qs nq1 ny ys (by omega) OL outs c1' (by omega) ((I, oI) :: own) ?o1 ?o2 hadr (by k_asm) ?N B X T hdp hu (by first | assumption | (dsimp only; omega)) _ t2 (by exact rfl) ?g2 ?g3 ?g4 ?g5 ?ret
    case o1 => exact off_cons (fun b hb => Ne.symm (Nat.ne_of_lt (hIa.1 b hb))) hoff
    case o2 => exact off_cons (fun b hb => by rw [List.mem_singleton.mp hb]; exact Ne.symm (Nat.ne_of_lt (hIa.2 _ (.head _)))) hO
    case g2 => exact AgOff.get hag h2
    case g3 => exact AgOff.get hag h3
    case g4 => exact AgOff.get hag h4
    case g5 => exact AgOff.get hag h5
    case N =>
      have e1 : nw c0 c1 k nd = wordOf nd.2.1 (n + 1) (if nd.1 = 0 then c0 else c1) (nmTab (k : Int)) nd.2.2.2 := by unfold nw; rw [hn]
      rw [← e1]
      intro q hq
      refine (show News _ _ _ _ by k_asm) q ?_
      rcases List.mem_append.mp hq with hq | hq
      · exact .tail _ (List.mem_append_left _ hq)
      · rcases List.mem_cons.mp hq with rfl | hq
        · exact .tail _ (List.mem_append_right _ (.head _))
        · rcases List.mem_cons.mp hq with rfl | hq
          · exact .head _
          · exact .tail _ (List.mem_append_right _ (.tail _ hq))
    case ret =>
      intro h' tk' m' t5 t6 nq' c' htk' F' hag' N'
      have hag2 : AgOff bodyNames m m' := AgOff.trans (AgOff.set hag (by decide)) (AgOff.sub hag' (fun x hx => .tail _ hx))
      have hstep : simS g [(0, p1, q1, 0), (1, p2, q2, 0)] (i + 1) = (os ++ [nd], if i < g then r ++ [(nd.1, nd.2.1, nd.2.2.1 + nd.2.1, nd.2.2.2 + nd.2.1), (nd.1, nd.2.1 + nd.2.2.1, nd.2.2.1, nd.2.2.2)] else r) := by
        show stepS g i (simS g [(0, p1, q1, 0), (1, p2, q2, 0)] i) = _
        rw [hsim]; rfl
      refine FTurn.intro (lexLed X9 line u (if i < g then qs ++ [(S (wordOf nd.2.1 (n + 1 + nd.2.1) (if nd.1 = 0 then c0 else c1) (nmTab (k : Int)) (nd.2.2.2 + nd.2.1)), t5), (S (wordOf (nd.2.1 + (n + 1)) (n + 1) (if nd.1 = 0 then c0 else c1) (nmTab (k : Int)) nd.2.2.2), t6)] else qs) nq' ys ny ++ (OL, listOf (strValues (outs ++ [(S (wordOf nd.2.1 (n + 1) (if nd.1 = 0 then c0 else c1) (nmTab (k : Int)) nd.2.2.2), tq)])).toArray c') :: own)
        F' N' htk' ?sub ?off ⟨outs ++ [(S (wordOf nd.2.1 (n + 1) (if nd.1 = 0 then c0 else c1) (nmTab (k : Int)) nd.2.2.2), tq)], if i < g then qs ++ [(S (wordOf nd.2.1 (n + 1 + nd.2.1) (if nd.1 = 0 then c0 else c1) (nmTab (k : Int)) (nd.2.2.2 + nd.2.1)), t5), (S (wordOf (nd.2.1 + (n + 1)) (n + 1) (if nd.1 = 0 then c0 else c1) (nmTab (k : Int)) nd.2.2.2), t6)] else qs, nq', c', hag2, ?o, ?q, rfl⟩
      case sub =>
        intro q hq
        rcases List.mem_cons.mp hq with rfl | hq
        · exact List.mem_append_right _ (.tail _ (.head _))
        · rcases List.mem_append.mp hq with hq | hq
          · exact List.mem_append_left _ hq
          · rcases List.mem_cons.mp hq with rfl | hq
            · exact List.mem_append_right _ (.head _)
            · exact List.mem_append_right _ (.tail _ (.tail _ hq))
      case off =>
        refine led_all (P := fun b => b ≠ I) (fun b hb => Nat.ne_of_lt (hIa.1 b hb)) fun q hq => ?_
        rcases List.mem_cons.mp hq with rfl | hq
        · exact Nat.ne_of_lt (hIa.2 (OL, listOf (strValues []).toArray c) (.head _))
        · exact Nat.ne_of_lt (hIa.2 _ (.tail _ hq))
      case o =>
        rw [hstep, List.map_append, List.map_append, houts]
        congr 1
        show [S _] = [S _]
        congr 2
        unfold nw; rw [hn]
      case q =>
        rw [hstep]
        dsimp only
        split
        · rw [List.map_append, List.map_append, hqs]
          congr 1
          show [S _, S _] = [S _, S _]
          unfold nw
          rw [hn]
        · exact hqs
  case done =>
    rintro h tk m' news' htk ⟨outs, qs, nq1, c1', hag, houts, hqs, rfl⟩ F N
    rw [sim_end ok9] at houts hqs
    rcases qs with _ | ⟨x, qs⟩
    · exact hret h tk m' outs nq1 c1' htk F hag houts N
    · cases hqs
end
end Mine
end SSb1
section WalkA
local macro_rules | `(tactic| walk_at "call builtin:list.append") => `(tactic| (k_here; (with_reducible show wpAny _ _ (call (Value.builtin _) [Value.ref _, _]) _ _ _); k_dflt (refine' append_K (by k_asm) (by k_asm) (by k_upd) ?_ (by (simp only [strValues, List.size_toArray, List.length_map, sizeLine_eq]; omega)); k_whole); intro _ _ _; (try (dsimp only; (with_reducible refine Mine.gentoks2 ?hX9 ?_); (case hX9 => first | assumption | (dsimp only; omega)); intro _ _)); (try k_sweep)))
section SRt1
local macro_rules | `(tactic| walk_at "z") => `(tactic| skip)
namespace Mine
theorem fresh23 : True := by
  w_top off
  trivial
end Mine
open PySem PySem.W PyProof.Rows PySem.Calls
set_option Elab.async false
set_option maxRecDepth 100000
set_option maxHeartbeats 8000000
set_option pp.maxSteps 400
set_option autoImplicit false
namespace Mine
/-- the same, the writings an int -/
theorem ct_wordI (w : World) (D A wr : Nat) (AL ND : Addr) (xs : List (PySem.Str × Tok)) (cs : List Nat) (c : Nat) (o : Obj) (tab : List (PySem.Str × PySem.Str)) (t1 t2 t3 : Tok) (z : Int) (hz : z = (wr : Int)) (hA : 1 ≤ A) (hD2 : D ≤ 10000) (hA2 : A ≤ 10000) (hw2 : wr ≤ 10000) (hcs : cs.length ≤ 3) (hxs : xs.map (·.1) = ones cs) (ht : ∀ c x, nameAt tab (S [c]) = some x → x.length ≤ 10)
    (lo : (ND == sysModules) = false) (hn : NamesOf PySem.Challenge.rw_rw0051_01.row.prog w o tab) (own : List (Addr × Obj)) (h1 : (AL, listOf (strValues xs).toArray c) ∈ own) (h2 : (ND, o) ∈ own) :
    Ct w 20 200 158 [.int (D : Int) t1, .int (A : Int) t2, .ref AL, .int z t3, .ref ND] own True (fun v n' => (∃ t, v = .str (S (wordOf D A cs tab wr)) t) ∧ n' = own) := by
  subst hz
  exact ct_wordM w D A wr AL ND xs cs c o tab t1 t2 t3 hA hD2 hA2 hw2 hcs hxs ht lo hn own h1 h2
/-- the innermost statement of the due loop -/
def rowSt (P : Program) : Option (Scope × Stmt) := match lawSt P 14 with
  | some (sc, .For _ _ [.For _ _ [st] _ _] _ _) => some (sc, st)
  | _ => none
def rowBody (P : Program) : Option (Scope × List Stmt) := match rowSt P with
  | some (sc, .For _ _ body _ _) => some (sc, body)
  | _ => none
end Mine
local macro_rules | `(tactic| walk_at "call ref") => `(tactic| (k_here; (k_dflt (show wpAny _ _ (call (Value.ref 158) [Value.int _ _, Value.int _ _, Value.ref _, Value.int _ _, Value.ref _]) _ _ _)); k_dflt (refine' Mine.ct_useA (Mine.ct_wordI _ _ _ _ _ _ _ _ _ _ _ _ _ _ _ (by assumption) (by omega) (by omega) (by omega) (by omega) (by first | assumption | exact Nat.le_refl 3) (by assumption) (Mine.nmTab_len _) (by assumption) ?hn _ ?h1 ?h2) trivial ?_; (case h1 => k_ownIn); (case h2 => k_ownIn); (case hn => assumption); k_whole; intro _ _ _ _ _ _ _ hp9; obtain ⟨⟨_, e1⟩, e2⟩ := hp9; subst e1; subst e2; (try k_sweep))))
namespace Mine
theorem due_end {h₀ h : Heap} {L OL : Addr} {outs : List (PySem.Str × Tok)} {c : Nat} {x : PySem.Str} {t : Tok} {own : List (Addr × Obj)}
    (N : News h₀ L h ((OL, listOf ((strValues outs).toArray.push (.str x t)) c) :: own)) : News h₀ L h ((OL, listOf (strValues (outs ++ [(x, t)])).toArray c) :: own) := by
  have e : (strValues outs).toArray.push (.str x t) = (strValues (outs ++ [(x, t)])).toArray := by simp [strValues]
  rw [e] at N
  exact N
section
variable {w : World} {p : Program} {loose : List Str} {mean : ExcName → Option Value} {mg mb : Str → Option Value} {dp un : Nat} {gd : Option (List Code)} {outer : List Env} {A₀ : Around} {base h₀ : Heap} {L : Addr} {s : Shared} {E : Value → Shared → Prop} {Q : Flow → Shared → Prop} {m : PySem.Str → Option Value} {sc : Scope} {body : List Stmt} {qn : PySem.Str} {a : Addr} {cd : Value}
theorem rowTurn (hst : rowBody PySem.Challenge.rw_rw0051_01.row.prog = some (sc, body)) (D A q : Nat) (hA : 1 ≤ A) (hD2 : D ≤ 100) (hA2 : A ≤ 100) (hq : q ≤ A) (tab : List (PySem.Str × PySem.Str)) (k : Nat) (htab : tab = nmTab (k : Int)) (xs : List (PySem.Str × Tok)) (cs : List Nat) (hcs : cs.length ≤ 3) (hxs : xs.map (·.1) = ones cs) (DL AL ND : Addr) (dues : List (PySem.Str × Tok)) (hdl : dues.length ≤ 1000) (c cx : Nat) (o : Obj) (lo : (ND == sysModules) = false) (hn : NamesOf PySem.Challenge.rw_rw0051_01.row.prog w o tab) (own : List (Addr × Obj)) (hAL : (AL, listOf (strValues xs).toArray cx) ∈ own) (hND : (ND, o) ∈ own) (hO : OwnOff own [DL])
    (F : Fr h₀ L s.heap m) (N : News h₀ L s.heap ((DL, listOf (strValues dues).toArray c) :: own)) (B : Below A₀ base outer h₀) (X : (hd.heap_39 w.params).In h₀) (T : Top p loose mean mg mb h₀) (hdp : dp + 60 < recursionLimit) (hu : un + 600 < cLine) (ht : 1 ≤ s.toks) (t1 t2 t3 : Tok)
    (h1 : m ("dots" : PySem.Str) = some (.int (D : Int) t1)) (h2 : m ("amps" : PySem.Str) = some (.int (A : Int) t2)) (h3 : m ("along" : PySem.Str) = some (.ref AL)) (h4 : m ("q" : PySem.Str) = some (.int (q : Int) t3)) (h5 : m ("names" : PySem.Str) = some (.ref ND)) (h6 : m ("due" : PySem.Str) = some (.ref DL))
    (hret : ∀ h' tk' t c', 1 ≤ tk' → Fr h₀ L h' m → News h₀ L h' ((DL, listOf (strValues (dues ++ [(S (wordOf D A cs tab (A - q)), t)])).toArray c') :: own) → Q .next { s with heap := h', toks := tk' }) :
    wpAny (model PySem.Challenge.rw_rw0051_01.row.prog w) (cT dp un gd (envOfC qn sc L a cd) outer) (execs body (envOfC qn sc L a cd)) Q E s := by
  have e : rowBody PySem.Challenge.rw_rw0051_01.row.prog = some (_, _) := rfl
  rw [e] at hst
  cases hst
  clear e
  subst htab
  revert X
  k_fill
  intro X
  have hw : (A : Int) - (q : Int) = ((A - q : Nat) : Int) := by omega
  have hch : chain [(("dots" : PySem.Str), .int (D : Int) t1), (("amps" : PySem.Str), .int (A : Int) t2), (("along" : PySem.Str), .ref AL), (("q" : PySem.Str), .int (q : Int) t3), (("names" : PySem.Str), .ref ND), (("due" : PySem.Str), .ref DL)] m = m := chain_eq (by simp only [List.forall_mem_cons]; exact ⟨h1, h2, h3, h4, h5, h6, fun _ h => nomatch h⟩)
  rw [← hch] at F hret
  dsimp only [chain] at F hret
  k_steps
  all_goals exact hret _ _ _ _ (by assumption) (by k_asm) (due_end (by k_asm))
end
end Mine
namespace Mine
theorem ct_rowM (w : World) (size p9 q9 : Nat) (hsz : size = 1 ∨ size = 2 ∨ size = 4 ∨ size = 8) (W : Addr) (ys : List Value) (c : Nat) (t1 t2 t3 : Tok) (hp9 : p9 ≤ 3) (hq9 : q9 ≤ 3) (hys : AreInts ys waysL) (own : List (Addr × Obj)) (h1 : (W, listOf ys.toArray c) ∈ own) :
    Ct w 20 200 180 [.int (size : Int) t1, .int (p9 : Int) t2, .int (q9 : Int) t3, .ref W] own True
      (fun v n' => ∃ D l c', v = .ref D ∧ l.map (fun e : RowE => (e.a, e.b)) = rowL size p9 q9 ∧ n' = (D, listOf (rowRefs l).toArray c') :: (rowLed l ++ own)) := by
  have key : ∀ {args : List Value} {rl : List (Int × Int)}, Ct w 20 200 180 args ((W, listOf ys.toArray c) :: own) True (fun v n' => ∃ D l c', v = .ref D ∧ l.map (fun e : RowE => (e.a, e.b)) = rl ∧ n' = (D, listOf (rowRefs l).toArray c') :: (rowLed l ++ (W, listOf ys.toArray c) :: own)) →
      Ct w 20 200 180 args own True (fun v n' => ∃ D l c', v = .ref D ∧ l.map (fun e : RowE => (e.a, e.b)) = rl ∧ n' = (D, listOf (rowRefs l).toArray c') :: (rowLed l ++ own)) := fun C =>
    C.perm (fun p hp => by
      rcases List.mem_cons.mp hp with rfl | hp
      · exact h1
      · exact hp) fun r n hP => by
      obtain ⟨D, l, c', e1, e2, rfl⟩ := hP
      refine ⟨_, fun p hp => ?_, D, l, c', e1, e2, rfl⟩
      rcases List.mem_cons.mp hp with rfl | hp
      · exact .head _
      · rcases List.mem_append.mp hp with hp | hp
        · exact .tail _ (List.mem_append_left _ hp)
        · exact .tail _ (List.mem_append_right _ (.tail _ hp))
  exact key (ct_rowG w size p9 q9 (by omega) (by omega) W ys c t1 t2 t3 hys own)
theorem rowL_N {size p q : Nat} (hsz : size = 1 ∨ size = 2 ∨ size = 4 ∨ size = 8) (hp : 1 ≤ p ∧ p ≤ 3) (hq : 1 ≤ q ∧ q ≤ 3) :
    rowL size p q = (rowN size p q).map (fun x => ((x.1 : Int), (x.2 : Int))) ∧ ∀ x ∈ rowN size p q, x.1 ≤ 100 ∧ 1 ≤ x.2 ∧ x.2 ≤ 100 ∧ q ≤ x.2 := by
  have key : ([1, 2, 4, 8].all fun size => [1, 2, 3].all fun p => [1, 2, 3].all fun q => decide (rowL size p q = (rowN size p q).map (fun x => ((x.1 : Int), (x.2 : Int)))) && (rowN size p q).all fun x => decide (x.1 ≤ 100) && decide (1 ≤ x.2) && decide (x.2 ≤ 100) && decide (q ≤ x.2)) = true := by decide +kernel
  have get : ∀ {l : List Nat} {f : Nat → Bool}, l.all f = true → ∀ x ∈ l, f x = true := fun h x hx => List.all_eq_true.mp h x hx
  have h := get (get (get key size (by simp only [List.mem_cons, List.not_mem_nil, or_false]; omega)) p (by simp only [List.mem_cons, List.not_mem_nil, or_false]; omega)) q (by simp only [List.mem_cons, List.not_mem_nil, or_false]; omega)
  rw [Bool.and_eq_true, decide_eq_true_eq] at h
  refine ⟨h.1, fun x hx => ?_⟩
  have := List.all_eq_true.mp h.2 x hx
  simp only [Bool.and_eq_true, decide_eq_true_eq] at this
  omega
theorem rowLed_mem {l : List RowE} {e : RowE} (h : e ∈ l) : (e.T, pairObj e.a e.b e.t e.u) ∈ rowLed l := List.mem_map.mpr ⟨e, h, rfl⟩
end Mine
end SRt1
section SRl1
local macro_rules | `(tactic| walk_at "z") => `(tactic| skip)
local macro_rules | `(tactic| walk_at "z") => `(tactic| skip)
namespace Mine
theorem fresh24 : True := by
  w_top off
  trivial
end Mine
open PySem PySem.W PyProof.Rows PySem.Calls
set_option Elab.async false
set_option maxRecDepth 100000
set_option maxHeartbeats 8000000
set_option pp.maxSteps 400
set_option autoImplicit false
local macro_rules | `(tactic| walk_at "call ref") => `(tactic| (k_here; (k_dflt (show wpAny _ _ (call (Value.ref 180) [Value.int _ _, Value.int _ _, Value.int _ _, Value.ref _]) _ _ _)); k_dflt (refine' Mine.ct_useA (Mine.ct_rowM _ _ _ _ (by assumption) _ _ _ _ _ _ ?hp ?hq (by assumption) _ ?h1) trivial ?_; (case h1 => k_ownIn); (case hp => omega); (case hq => omega); k_whole; intro _ _ _ _ _ _ _ hp9; obtain ⟨_, _, _, e1, _, e2⟩ := hp9; subst e1; subst e2; (try k_sweep))))
namespace Mine
theorem news_ne {h₀ h : Heap} {L a1 a2 : Addr} {o1 o2 : Obj} {l : List (Addr × Obj)} (N : News h₀ L h l) (h1 : (a1, o1) ∈ l) (h2 : (a2, o2) ∈ l) (hne : o1 ≠ o2) : a1 ≠ a2 := fun e => by
  subst e
  exact hne (Option.some.inj ((N _ h1).1.symm.trans (N _ h2).1))
theorem row_ne {l : List RowE} {dues : List (PySem.Str × Tok)} {c c' : Nat} (hl : l ≠ []) : listOf (rowRefs l).toArray c ≠ listOf (strValues dues).toArray c' := fun e => by
  have h2 : rowRefs l = strValues dues := by
    unfold PySem.W.listOf at e
    injection e with _ _ e
    injection e with e
    simpa using e
  rcases l with _ | ⟨x, l⟩
  · exact hl rfl
  · rcases dues with _ | ⟨y, dues⟩
    · cases h2
    · simp [rowRefs, strValues] at h2
theorem pair_ne {a b : Int} {t u : Tok} {vs : Array Value} {c : Nat} : pairObj a b t u ≠ listOf vs c := fun e => by
  unfold PySem.W.listOf at e
  injection e with e
  simp at e
section
variable {w : World} {p : Program} {loose : List Str} {mean : ExcName → Option Value} {mg mb : Str → Option Value} {dp un : Nat} {gd : Option (List Code)} {outer : List Env} {A₀ : Around} {base h₀ : Heap} {L : Addr} {s : Shared} {E : Value → Shared → Prop} {Q : Flow → Shared → Prop} {m : PySem.Str → Option Value} {sc : Scope} {st : Stmt} {qn : PySem.Str} {a : Addr} {cd : Value}
theorem rowLoop (hst : rowSt PySem.Challenge.rw_rw0051_01.row.prog = some (sc, st)) {size pp q k : Nat} (hsz : size = 1 ∨ size = 2 ∨ size = 4 ∨ size = 8) (hpp : 1 ≤ pp ∧ pp ≤ 3) (hq : 1 ≤ q ∧ q ≤ 3) {xs : List (PySem.Str × Tok)} {cs : List Nat} (hcs : cs.length ≤ 3) (hxs : xs.map (·.1) = ones cs) {DL AL ND W : Addr} {dues : List (PySem.Str × Tok)} (hdl : dues.length ≤ 500) {c cx cw : Nat} {o : Obj} {vys : List Value} (hys : AreInts vys waysL) (lo : (ND == sysModules) = false) (hn : NamesOf PySem.Challenge.rw_rw0051_01.row.prog w o (nmTab (k : Int))) {own : List (Addr × Obj)} (hAL : (AL, listOf (strValues xs).toArray cx) ∈ own) (hND : (ND, o) ∈ own) (hW : (W, listOf vys.toArray cw) ∈ own) (hO : OwnOff own [DL])
    (F : Fr h₀ L s.heap m) (N : News h₀ L s.heap ((DL, listOf (strValues dues).toArray c) :: own)) (B : Below A₀ base outer h₀) (X : (hd.heap_39 w.params).In h₀) (T : Top p loose mean mg mb h₀) (hdp : dp + 60 < recursionLimit) (hu : un + 600 < cLine) (ht : 1 ≤ s.toks) {t1 t2 t3 : Tok}
    (h1 : m ("size" : PySem.Str) = some (.int (size : Int) t1)) (h2 : m ("p" : PySem.Str) = some (.int (pp : Int) t2)) (h3 : m ("along" : PySem.Str) = some (.ref AL)) (h4 : m ("q" : PySem.Str) = some (.int (q : Int) t3)) (h5 : m ("names" : PySem.Str) = some (.ref ND)) (h6 : m ("due" : PySem.Str) = some (.ref DL)) (h7 : m ("ways" : PySem.Str) = some (.ref W))
    (hret : ∀ h' tk' m' dues' c', 1 ≤ tk' → Fr h₀ L h' m' → AgOff ["dots", "amps"] m m' → dues'.map (·.1) = dues.map (·.1) ++ (rowN size pp q).map (fun x => S (wordOf x.1 x.2 cs (nmTab (k : Int)) (x.2 - q))) → News h₀ L h' ((DL, listOf (strValues dues').toArray c') :: own) → Q .next { s with heap := h', toks := tk' }) :
    wpAny (model PySem.Challenge.rw_rw0051_01.row.prog w) (cT dp un gd (envOfC qn sc L a cd) outer) (exec st (envOfC qn sc L a cd)) Q E s := by
  have e : rowSt PySem.Challenge.rw_rw0051_01.row.prog = some (_, _) := rfl
  rw [e] at hst
  cases hst
  clear e
  revert X
  k_fill
  intro X
  obtain ⟨hrow, hrb⟩ := rowL_N hsz hpp hq
  have hch := AgOff.ch4 (xs := ["dots", "amps"]) h1 h2 h4 h7
  replace F := Fr_ch4 "size" "p" "q" "ways" F h1 h2 h4 h7
  k_steps
  rename_i h9 tk9 F9 htk9 D9 l9 c9 hl9 N9
  intro ht9
  have hlen9 : l9.length = (rowN size pp q).length := by
    have := congrArg List.length hl9
    rw [hrow] at this
    simpa using this
  have hl0 : l9 ≠ [] := fun e => by
    rw [e] at hlen9
    have : (rowN size pp q).length = size := by unfold rowN; rw [List.length_map, List.length_range]
    rw [this] at hlen9
    simp at hlen9
    omega
  have hoD : D9 ≠ DL := news_ne N9 (.head _) (.tail _ (List.mem_append_right _ (.head _))) (row_ne hl0)
  have hoR : ∀ y ∈ rowLed l9, y.1 ≠ DL := fun y hy => by
    obtain ⟨e, he, rfl⟩ := List.mem_map.mp hy
    exact news_ne N9 (.tail _ (List.mem_append_left _ hy)) (.tail _ (List.mem_append_right _ (.head _))) pair_ne
  have N2 : News h₀ L h9 ((DL, listOf (strValues dues).toArray c) :: (D9, listOf (rowRefs l9).toArray c9) :: (rowLed l9 ++ own)) := fun x hx => N9 x (by
    simp only [List.mem_cons, List.mem_append] at hx ⊢
    rcases hx with hx | hx | hx | hx
    · exact .inr (.inr (.inl hx))
    · exact .inl hx
    · exact .inr (.inl hx)
    · exact .inr (.inr (.inr hx)))
  refine' forAt_list (fun i m' n' => ∃ dues' c', AgOff ["dots", "amps"] m m' ∧ dues'.map (·.1) = dues.map (·.1) ++ ((rowN size pp q).take i).map (fun x => S (wordOf x.1 x.2 cs (nmTab (k : Int)) (x.2 - q))) ∧ n' = (DL, listOf (strValues dues').toArray c') :: (D9, listOf (rowRefs l9).toArray c9) :: (rowLed l9 ++ own)) ?hh ?F N2 ?hm ?ht ?hj ?turn ?done
  case hh => exact rfl
  case F => k_asm
  case hm => exact .tail _ (.head _)
  case ht => exact ht9
  case hj => exact ⟨dues, c, hch, by simp, rfl⟩
  case turn =>
    rintro I oI i v m₁ news₁ h tk E' hI hv ⟨dues', c', hag, hd', rfl⟩ hl htk F N off
    unfold rowRefs at hv
    rw [List.getElem?_map] at hv
    obtain ⟨e, he, rfl⟩ : ∃ e, l9[i]? = some e ∧ v = .ref e.T := by
      cases hq9 : l9[i]? with
      | none => rw [hq9] at hv; cases hv
      | some e => rw [hq9] at hv; cases hv; exact ⟨e, rfl, rfl⟩
    have hi : i < l9.length := by
      rcases Nat.lt_or_ge i l9.length with h | h
      · exact h
      · rw [List.getElem?_eq_none h] at he; cases he
    obtain ⟨x, hx⟩ : ∃ x, (rowN size pp q)[i]? = some x := ⟨_, List.getElem?_eq_getElem (by omega)⟩
    have hex : e.a = (x.1 : Int) ∧ e.b = (x.2 : Int) := by
      have := congrArg (fun l => l[i]?) hl9
      simp only [hrow, List.getElem?_map, he, hx, Option.map_some, Option.some.injEq, Prod.mk.injEq] at this
      exact this
    obtain ⟨hb1, hb2, hb3, hb4⟩ := hrb x (List.mem_of_getElem? hx)
    have hmem : (e.T, pairObj (x.1 : Int) (x.2 : Int) e.t e.u) ∈ rowLed l9 := by
      have := rowLed_mem (List.mem_of_getElem? he)
      rw [hex.1, hex.2] at this
      exact this
    have N3 : News h₀ L h ((DL, listOf (strValues dues').toArray c') :: (e.T, pairObj (x.1 : Int) (x.2 : Int) e.t e.u) :: (I, oI) :: (D9, listOf (rowRefs l9).toArray c9) :: (rowLed l9 ++ own)) := fun y hy => by
      rcases List.mem_cons.mp hy with rfl | hy
      · exact N _ (.tail _ (.head _))
      · rcases List.mem_cons.mp hy with rfl | hy
        · exact N _ (.tail _ (.tail _ (.tail _ (List.mem_append_left _ hmem))))
        · rcases List.mem_cons.mp hy with rfl | hy
          · exact N _ (.head _)
          · exact N _ (.tail _ (.tail _ hy))
    have hdl' : dues'.length ≤ 1000 := by
      have := congrArg List.length hd'
      simp only [List.length_map, List.length_append, List.length_take] at this
      have : (rowN size pp q).length ≤ 8 := by unfold rowN; rw [List.length_map, List.length_range]; omega
      omega
    have hO3 : OwnOff ((e.T, pairObj (x.1 : Int) (x.2 : Int) e.t e.u) :: (I, oI) :: (D9, listOf (rowRefs l9).toArray c9) :: (rowLed l9 ++ own)) [DL] := by
      intro y hy b hb
      rw [List.mem_singleton.mp hb]
      rcases List.mem_cons.mp hy with rfl | hy
      · exact hoR _ hmem
      · rcases List.mem_cons.mp hy with rfl | hy
        · exact Ne.symm (Nat.ne_of_lt (hI (DL, listOf (strValues dues).toArray c) (.head _)))
        · rcases List.mem_cons.mp hy with rfl | hy
          · exact hoD
          · rcases List.mem_append.mp hy with hy | hy
            · exact hoR _ hy
            · exact hO _ hy _ (.head _)
    generalize hown : (I, oI) :: (D9, listOf (rowRefs l9).toArray c9) :: (rowLed l9 ++ own) = own3 at N3 hO3
    have hsub : ∀ y ∈ own, y ∈ own3 := fun y hy => by rw [← hown]; exact .tail _ (.tail _ (List.mem_append_right _ hy))
    have g3 := AgOff.get (y := "along") hag h3
    have g4 := AgOff.get (y := "q") hag h4
    have g5 := AgOff.get (y := "names") hag h5
    have g6 := AgOff.get (y := "due") hag h6
    clear N
    iterate 8 walk1
    refine rowTurn (by rfl) x.1 x.2 q hb2 hb1 hb3 hb4 (nmTab (k : Int)) k rfl xs cs hcs hxs DL AL ND dues' hdl' c' cx o lo hn _ (.tail _ (hsub _ hAL)) (.tail _ (hsub _ hND)) hO3 (by k_asm) ?N B X T hdp hu (by first | assumption | (dsimp only; omega)) _ _ _ (by exact rfl) (by exact rfl) (by exact g3) (by exact g4) (by exact g5) (by exact g6) ?ret
    case N => k_asm
    case ret =>
      intro h' tk' t c2 htk' F' N'
      refine FTurn.intro ((DL, listOf (strValues (dues' ++ [(S (wordOf x.1 x.2 cs (nmTab (k : Int)) (x.2 - q)), t)])).toArray c2) :: (D9, listOf (rowRefs l9).toArray c9) :: (rowLed l9 ++ own)) F' N' htk' ?sub ?off ⟨⟨dues' ++ [(S (wordOf x.1 x.2 cs (nmTab (k : Int)) (x.2 - q)), t)], c2, AgOff.set (AgOff.set hag (by decide)) (by decide), ?d, rfl⟩, .tail _ (.head _)⟩
      case sub =>
        intro y hy
        rw [← hown]
        rcases List.mem_cons.mp hy with rfl | hy
        · exact .tail _ (.tail _ (.head _))
        · rcases List.mem_cons.mp hy with rfl | hy
          · exact .head _
          · exact .tail _ (.tail _ (.tail _ hy))
      case off =>
        intro y hy
        rcases List.mem_cons.mp hy with rfl | hy
        · exact Nat.ne_of_lt (hI (DL, listOf (strValues dues).toArray c) (.head _))
        · exact Nat.ne_of_lt (hI _ (.tail _ hy))
      case d =>
        rw [List.map_append, hd', List.take_add_one, hx, List.map_append, List.append_assoc]
        rfl
  case done =>
    rintro h tk m' news' htk ⟨dues', c', hag, hd', rfl⟩ F N
    refine hret h tk m' dues' c' htk F hag ?_ fun x hx => N x ?_
    · rw [hd']
      have e9 : (rowRefs l9).length = (rowN size pp q).length := by unfold rowRefs; rw [List.length_map, hlen9]
      rw [e9, List.take_length]
    · rcases List.mem_cons.mp hx with rfl | hx
      · exact .head _
      · exact .tail _ (.tail _ (List.mem_append_right _ hx))
end
end Mine
end SRl1
section SHs1
namespace Mine
theorem fresh25 : True := by
  w_top off
  trivial
end Mine
open PySem PySem.W PyProof.Rows PySem.Calls
set_option Elab.async false
set_option maxRecDepth 100000
set_option maxHeartbeats 8000000
set_option pp.maxSteps 400
set_option autoImplicit false
local macro_rules | `(tactic| walk_at "call ref") => `(tactic| (k_here; (k_dflt (show wpAny _ _ (call (Value.ref 151) [Value.int _ _]) _ _ _)); k_dflt (refine' Mine.ct_useA (Mine.ct_seed _ _ _ ?hn _) trivial ?_; (case hn => assumption); k_whole; intro _ _ _ _ _ _ _ hp9; obtain ⟨_, _, _, _, _, _, _, e1, _, _, e2⟩ := hp9; subst e1; subst e2; (try k_sweep))))
local macro_rules | `(tactic| walk_at "call ref") => `(tactic| (k_here; (k_dflt (show wpAny _ _ (call (Value.ref 146) [Value.int _ _]) _ _ _)); k_dflt (refine' Mine.ct_useA (Mine.ct_names _ _ _ (by omega) (by omega) _) trivial ?_; k_whole; intro _ _ _ _ _ _ _ hp9; obtain ⟨_, _, e1, _, _, e2⟩ := hp9; subst e1; subst e2; (try k_sweep))))
local macro_rules | `(tactic| walk_at "call ref") => `(tactic| (k_here; (k_dflt (show wpAny _ _ (call (Value.ref 139) [Value.str _ _]) _ _ _)); k_dflt (refine' Mine.ct_useA (Mine.ct_mklex _ _ _ _) ?hp ?_; (case hp => exact And.intro (by assumption) (by assumption)); k_whole; intro _ _ _ _ _ _ _ hp9; obtain ⟨_, _, _, _, _, _, e1, _, _, _, e2⟩ := hp9; subst e1; subst e2; (try k_sweep))))
local macro_rules | `(tactic| walk_at "call ref") => `(tactic| (k_here; (k_dflt (show wpAny _ _ (call (Value.ref 175) []) _ _ _)); k_dflt (refine' Mine.ct_useA (Mine.ct_ways _ _) trivial ?_; k_whole; intro _ _ _ _ _ _ _ hp9; obtain ⟨_, _, _, e1, _, e2⟩ := hp9; subst e1; subst e2; (try k_sweep))))
namespace Mine
theorem Fr_chA {h₀ h : Heap} {L : Addr} {m : PySem.Str → Option Value} (x1 : PySem.Str) {v1 : Value} (F : Fr h₀ L h m) (h1 : m x1 = some v1) : Fr h₀ L h (fun y => if y = x1 then some v1 else m y) := Fr_ch F h1
theorem escAt (k : Nat) (hk : k < 5) : ([.ref 104, .ref 111, .ref 118, .ref 125, .ref 132] : List Value)[((k : Nat) : Int).toNat]? = some (.ref (escFn k)) := by
  rw [Int.toNat_natCast]
  rcases k with _ | _ | _ | _ | _ | k
  · rfl
  · rfl
  · rfl
  · rfl
  · rfl
  · omega
end Mine
namespace Mine
section
variable {w : World} {p : Program} {loose : List Str} {mean : ExcName → Option Value} {mg mb : Str → Option Value} {dp un : Nat} {gd : Option (List Code)} {outer : List Env} {A₀ : Around} {base h₀ : Heap} {L : Addr} {s : Shared} {E : Value → Shared → Prop} {Q : Flow → Shared → Prop} {m : PySem.Str → Option Value} {sc : Scope} {st : Stmt} {qn : PySem.Str} {a : Addr} {cd : Value}
theorem st1 (hst : lawSt PySem.Challenge.rw_rw0051_01.row.prog 1 = some (sc, st)) {n1 n2 : Nat} (hn1 : n1 < 1000000000) (hn2 : n2 < 1000000000) {t1 t2 : Tok} {news : List (Addr × Obj)}
    (F : Fr h₀ L s.heap m) (N : News h₀ L s.heap (news)) (B : Below A₀ base outer h₀) (X : (hd.heap_39 w.params).In h₀) (T9 : Top p loose mean mg mb h₀) (hdp : dp + 160 < recursionLimit) (hu : un + 1600 < cLine) (ht : 1 ≤ s.toks) (h1 : m ("first" : PySem.Str) = some (.int (n1 : Int) t1)) (h2 : m ("second" : PySem.Str) = some (.int (n2 : Int) t2))
    (hret : ∀ h' tk' SL T1 T2 AL1 AL2 u1 u2 u3 v1 v2 v3 xs1 xs2 c1 c2, 1 ≤ tk' → Fr h₀ L h' (fun y => if y = ("seeds" : PySem.Str) then some (.ref SL) else m y) → xs1.map (·.1) = ones (sdAlong n1) → xs2.map (·.1) = ones (sdAlong n2) → News h₀ L h' ((SL, listOf [.ref T1, .ref T2].toArray 0) :: (T2, seedObj n2 AL2 v1 v2 v3) :: (AL2, listOf (strValues xs2).toArray c2) :: (T1, seedObj n1 AL1 u1 u2 u3) :: (AL1, listOf (strValues xs1).toArray c1) :: news) → Q .next { s with heap := h', toks := tk' }) :
    wpAny (model PySem.Challenge.rw_rw0051_01.row.prog w) (cT dp un gd (envOfC qn sc L a cd) outer) (exec st (envOfC qn sc L a cd)) Q E s := by
  have e : lawSt PySem.Challenge.rw_rw0051_01.row.prog 1 = some (_, _) := rfl
  rw [e] at hst
  cases hst
  clear e
  revert X
  k_fill
  intro X
  have hch : chain [(("first" : PySem.Str), .int (n1 : Int) t1), (("second" : PySem.Str), .int (n2 : Int) t2)] m = m := chain_eq (by simp only [List.forall_mem_cons]; exact ⟨h1, h2, fun _ h => nomatch h⟩)
  rw [← hch] at F hret
  dsimp only [chain] at F hret
  k_steps
  refine' hret _ _ _ _ _ _ _ _ _ _ _ _ _ _ _ _ _ ?t ?F ?x1 ?x2 ?N
  case F => k_asm
  case N => k_asm
  case t => first | assumption | (dsimp only; omega)
  case x1 => assumption
  case x2 => assumption
theorem st2 (hst : lawSt PySem.Challenge.rw_rw0051_01.row.prog 2 = some (sc, st)) {n3 : Nat} {t1 : Tok} {news : List (Addr × Obj)}
    (F : Fr h₀ L s.heap m) (N : News h₀ L s.heap (news)) (B : Below A₀ base outer h₀) (X : (hd.heap_39 w.params).In h₀) (T9 : Top p loose mean mg mb h₀) (hdp : dp + 160 < recursionLimit) (hu : un + 1600 < cLine) (ht : 1 ≤ s.toks) (h1 : m ("third" : PySem.Str) = some (.int (n3 : Int) t1))
    (hret : ∀ h' tk' t, 1 ≤ tk' → Fr h₀ L h' (fun y => if y = ("growing" : PySem.Str) then some (.int ((n3 % 6 + 2 : Nat) : Int) t) else m y) → News h₀ L h' (news) → Q .next { s with heap := h', toks := tk' }) :
    wpAny (model PySem.Challenge.rw_rw0051_01.row.prog w) (cT dp un gd (envOfC qn sc L a cd) outer) (exec st (envOfC qn sc L a cd)) Q E s := by
  have e : lawSt PySem.Challenge.rw_rw0051_01.row.prog 2 = some (_, _) := rfl
  rw [e] at hst
  cases hst
  clear e
  revert X
  k_fill
  intro X
  have hch : chain [(("third" : PySem.Str), .int (n3 : Int) t1)] m = m := chain_eq (by simp only [List.forall_mem_cons]; exact ⟨h1, fun _ h => nomatch h⟩)
  rw [← hch] at F hret
  dsimp only [chain] at F hret
  k_steps
  have e9 : (n3 : Int).fmod 6 + 2 = ((n3 % 6 + 2 : Nat) : Int) := by rw [show (n3 : Int).fmod 6 = ((n3 % 6 : Nat) : Int) from fmn n3 6]; omega
  have F9 := (show Fr h₀ L _ _ by k_asm)
  rw [e9] at F9
  refine' hret _ _ _ ?t ?F ?N
  case F => exact F9
  case N => k_asm
  case t => first | assumption | (dsimp only; omega)
theorem st3 (hst : lawSt PySem.Challenge.rw_rw0051_01.row.prog 3 = some (sc, st)) {n3 : Nat} {t1 : Tok} {news : List (Addr × Obj)}
    (F : Fr h₀ L s.heap m) (N : News h₀ L s.heap (news)) (B : Below A₀ base outer h₀) (X : (hd.heap_39 w.params).In h₀) (T9 : Top p loose mean mg mb h₀) (hdp : dp + 160 < recursionLimit) (hu : un + 1600 < cLine) (ht : 1 ≤ s.toks) (h1 : m ("third" : PySem.Str) = some (.int (n3 : Int) t1))
    (hret : ∀ h' tk' t, 1 ≤ tk' → Fr h₀ L h' (fun y => if y = ("hand" : PySem.Str) then some (.int ((n3 / 6 % 5 : Nat) : Int) t) else m y) → News h₀ L h' (news) → Q .next { s with heap := h', toks := tk' }) :
    wpAny (model PySem.Challenge.rw_rw0051_01.row.prog w) (cT dp un gd (envOfC qn sc L a cd) outer) (exec st (envOfC qn sc L a cd)) Q E s := by
  have e : lawSt PySem.Challenge.rw_rw0051_01.row.prog 3 = some (_, _) := rfl
  rw [e] at hst
  cases hst
  clear e
  revert X
  k_fill
  intro X
  have hch : chain [(("third" : PySem.Str), .int (n3 : Int) t1)] m = m := chain_eq (by simp only [List.forall_mem_cons]; exact ⟨h1, fun _ h => nomatch h⟩)
  rw [← hch] at F hret
  dsimp only [chain] at F hret
  k_steps
  have e9 : ((n3 : Int).fdiv 6).fmod 5 = ((n3 / 6 % 5 : Nat) : Int) := fdm n3 6 5
  have F9 := (show Fr h₀ L _ _ by k_asm)
  rw [e9] at F9
  refine' hret _ _ _ ?t ?F ?N
  case F => exact F9
  case N => k_asm
  case t => first | assumption | (dsimp only; omega)
theorem st4 (hst : lawSt PySem.Challenge.rw_rw0051_01.row.prog 4 = some (sc, st)) {k : Nat} (hk5 : k < 5) {t1 : Tok} {news : List (Addr × Obj)}
    (F : Fr h₀ L s.heap m) (N : News h₀ L s.heap (news)) (B : Below A₀ base outer h₀) (X : (hd.heap_39 w.params).In h₀) (T9 : Top p loose mean mg mb h₀) (hdp : dp + 160 < recursionLimit) (hu : un + 1600 < cLine) (ht : 1 ≤ s.toks) (h1 : m ("hand" : PySem.Str) = some (.int (k : Int) t1))
    (hret : ∀ h' tk' , 1 ≤ tk' → Fr h₀ L h' (fun y => if y = ("write" : PySem.Str) then some (.ref (escFn k)) else m y) → News h₀ L h' (news) → Q .next { s with heap := h', toks := tk' }) :
    wpAny (model PySem.Challenge.rw_rw0051_01.row.prog w) (cT dp un gd (envOfC qn sc L a cd) outer) (exec st (envOfC qn sc L a cd)) Q E s := by
  have e : lawSt PySem.Challenge.rw_rw0051_01.row.prog 4 = some (_, _) := rfl
  rw [e] at hst
  cases hst
  clear e
  revert X
  k_fill
  intro X
  have hch : chain [(("hand" : PySem.Str), .int (k : Int) t1)] m = m := chain_eq (by simp only [List.forall_mem_cons]; exact ⟨h1, fun _ h => nomatch h⟩)
  rw [← hch] at F hret
  dsimp only [chain] at F hret
  k_steps
  refine menu_item (vs := [.ref 104, .ref 111, .ref 118, .ref 125, .ref 132]) (v := .ref (escFn k)) (by k_asm) (.head _) (by omega) (by omega) (escAt k hk5) ?_
  k_steps
  refine' hret _ _ ?t ?F ?N
  case F => k_asm
  case N => exact PyProof.Rows.News.tail' (by k_asm)
  case t => first | assumption | (dsimp only; omega)
theorem st5 (hst : lawSt PySem.Challenge.rw_rw0051_01.row.prog 5 = some (sc, st)) {k : Nat} (hk5 : k < 5) {t1 : Tok} {news : List (Addr × Obj)}
    (F : Fr h₀ L s.heap m) (N : News h₀ L s.heap (news)) (B : Below A₀ base outer h₀) (X : (hd.heap_39 w.params).In h₀) (T9 : Top p loose mean mg mb h₀) (hdp : dp + 160 < recursionLimit) (hu : un + 1600 < cLine) (ht : 1 ≤ s.toks) (h1 : m ("hand" : PySem.Str) = some (.int (k : Int) t1))
    (hret : ∀ h' tk' ND o, 1 ≤ tk' → Fr h₀ L h' (fun y => if y = ("names" : PySem.Str) then some (.ref ND) else m y) → (ND == sysModules) = false → NamesOf PySem.Challenge.rw_rw0051_01.row.prog w o (nmTab (k : Int)) → News h₀ L h' ((ND, o) :: news) → Q .next { s with heap := h', toks := tk' }) :
    wpAny (model PySem.Challenge.rw_rw0051_01.row.prog w) (cT dp un gd (envOfC qn sc L a cd) outer) (exec st (envOfC qn sc L a cd)) Q E s := by
  have e : lawSt PySem.Challenge.rw_rw0051_01.row.prog 5 = some (_, _) := rfl
  rw [e] at hst
  cases hst
  clear e
  revert X
  k_fill
  intro X
  have hch : chain [(("hand" : PySem.Str), .int (k : Int) t1)] m = m := chain_eq (by simp only [List.forall_mem_cons]; exact ⟨h1, fun _ h => nomatch h⟩)
  rw [← hch] at F hret
  dsimp only [chain] at F hret
  k_steps
  refine' hret _ _ _ _ ?t ?F ?lo ?nm ?N
  case F => k_asm
  case N => k_asm
  case t => first | assumption | (dsimp only; omega)
  case lo => assumption
  case nm => assumption
theorem st6 (hst : lawSt PySem.Challenge.rw_rw0051_01.row.prog 6 = some (sc, st)) {news : List (Addr × Obj)}
    (F : Fr h₀ L s.heap m) (N : News h₀ L s.heap (news)) (B : Below A₀ base outer h₀) (X : (hd.heap_39 w.params).In h₀) (T9 : Top p loose mean mg mb h₀) (hdp : dp + 160 < recursionLimit) (hu : un + 1600 < cLine) (ht : 1 ≤ s.toks) 
    (hret : ∀ h' tk' t, 1 ≤ tk' → Fr h₀ L h' (fun y => if y = ("text" : PySem.Str) then some (.str (S []) t) else m y) → News h₀ L h' (news) → Q .next { s with heap := h', toks := tk' }) :
    wpAny (model PySem.Challenge.rw_rw0051_01.row.prog w) (cT dp un gd (envOfC qn sc L a cd) outer) (exec st (envOfC qn sc L a cd)) Q E s := by
  have e : lawSt PySem.Challenge.rw_rw0051_01.row.prog 6 = some (_, _) := rfl
  rw [e] at hst
  cases hst
  clear e
  revert X
  k_fill
  intro X
  k_steps
  refine' hret _ _ _ ?t ?F ?N
  case F => k_asm
  case N => k_asm
  case t => first | assumption | (dsimp only; omega)
theorem st8 (hst : lawSt PySem.Challenge.rw_rw0051_01.row.prog 8 = some (sc, st)) {l : List Nat} (hl : l.length ≤ 100000) {t1 : Tok} {own : List (Addr × Obj)} (hoff : OwnOff own [134])
    (F : Fr h₀ L s.heap m) (N : News h₀ L s.heap ((134, tabObj #[]) :: own)) (B : Below A₀ base outer h₀) (X : (hd.heap_39 w.params).In h₀) (T9 : Top p loose mean mg mb h₀) (hdp : dp + 160 < recursionLimit) (hu : un + 1600 < cLine) (ht : 1 ≤ s.toks) (h1 : m ("text" : PySem.Str) = some (.str (S l) t1))
    (hret : ∀ h' tk' X9 u nq ny ys tb, 1 ≤ tk' → Fr h₀ L h' (fun y => if y = ("lexer" : PySem.Str) then some (.ref X9.x) else m y) → LexOk w X9 → ys.map (·.1) = ones l.reverse → OwnOff ((134, tabObj tb) :: own) X9.adrs → News h₀ L h' (lexLed X9 1 u [] nq ys ny ++ (134, tabObj tb) :: own) → Q .next { s with heap := h', toks := tk' }) :
    wpAny (model PySem.Challenge.rw_rw0051_01.row.prog w) (cT dp un gd (envOfC qn sc L a cd) outer) (exec st (envOfC qn sc L a cd)) Q E s := by
  have e : lawSt PySem.Challenge.rw_rw0051_01.row.prog 8 = some (_, _) := rfl
  rw [e] at hst
  cases hst
  clear e
  revert X
  k_fill
  intro X
  have hch : chain [(("text" : PySem.Str), .str (S l) t1)] m = m := chain_eq (by simp only [List.forall_mem_cons]; exact ⟨h1, fun _ h => nomatch h⟩)
  rw [← hch] at F hret
  dsimp only [chain] at F hret
  k_steps
  refine' hret _ _ _ _ _ _ _ _ ?t ?F ?ok ?ys ?of ?N
  case F => k_asm
  case N => k_asm
  case t => first | assumption | (dsimp only; omega)
  case ok => assumption
  case ys => assumption
  case of => assumption
theorem st10 (hst : lawSt PySem.Challenge.rw_rw0051_01.row.prog 10 = some (sc, st)) {news : List (Addr × Obj)}
    (F : Fr h₀ L s.heap m) (N : News h₀ L s.heap (news)) (B : Below A₀ base outer h₀) (X : (hd.heap_39 w.params).In h₀) (T9 : Top p loose mean mg mb h₀) (hdp : dp + 160 < recursionLimit) (hu : un + 1600 < cLine) (ht : 1 ≤ s.toks) 
    (hret : ∀ h' tk' OL, 1 ≤ tk' → Fr h₀ L h' (fun y => if y = ("out" : PySem.Str) then some (.ref OL) else m y) → (∀ p ∈ news, p.1 < OL) → News h₀ L h' ((OL, listOf (strValues []).toArray 0) :: news) → Q .next { s with heap := h', toks := tk' }) :
    wpAny (model PySem.Challenge.rw_rw0051_01.row.prog w) (cT dp un gd (envOfC qn sc L a cd) outer) (exec st (envOfC qn sc L a cd)) Q E s := by
  have e : lawSt PySem.Challenge.rw_rw0051_01.row.prog 10 = some (_, _) := rfl
  rw [e] at hst
  cases hst
  clear e
  revert X
  k_fill
  intro X
  k_steps
  refine' hret _ _ _ ?t ?F ?lt ?N
  case F => k_asm
  case N => k_asm
  case t => first | assumption | (dsimp only; omega)
  case lt => exact fun p hp => PySem.W.kst_ltOf (by assumption) p hp
theorem st12 (hst : lawSt PySem.Challenge.rw_rw0051_01.row.prog 12 = some (sc, st)) {news : List (Addr × Obj)}
    (F : Fr h₀ L s.heap m) (N : News h₀ L s.heap (news)) (B : Below A₀ base outer h₀) (X : (hd.heap_39 w.params).In h₀) (T9 : Top p loose mean mg mb h₀) (hdp : dp + 160 < recursionLimit) (hu : un + 1600 < cLine) (ht : 1 ≤ s.toks) 
    (hret : ∀ h' tk' W vys c, 1 ≤ tk' → Fr h₀ L h' (fun y => if y = ("ways" : PySem.Str) then some (.ref W) else m y) → AreInts vys waysL → News h₀ L h' ((W, listOf vys.toArray c) :: news) → Q .next { s with heap := h', toks := tk' }) :
    wpAny (model PySem.Challenge.rw_rw0051_01.row.prog w) (cT dp un gd (envOfC qn sc L a cd) outer) (exec st (envOfC qn sc L a cd)) Q E s := by
  have e : lawSt PySem.Challenge.rw_rw0051_01.row.prog 12 = some (_, _) := rfl
  rw [e] at hst
  cases hst
  clear e
  revert X
  k_fill
  intro X
  k_steps
  refine' hret _ _ _ _ _ ?t ?F ?ys ?N
  case F => k_asm
  case N => k_asm
  case t => first | assumption | (dsimp only; omega)
  case ys => assumption
theorem st13 (hst : lawSt PySem.Challenge.rw_rw0051_01.row.prog 13 = some (sc, st)) {news : List (Addr × Obj)}
    (F : Fr h₀ L s.heap m) (N : News h₀ L s.heap (news)) (B : Below A₀ base outer h₀) (X : (hd.heap_39 w.params).In h₀) (T9 : Top p loose mean mg mb h₀) (hdp : dp + 160 < recursionLimit) (hu : un + 1600 < cLine) (ht : 1 ≤ s.toks) 
    (hret : ∀ h' tk' DL, 1 ≤ tk' → Fr h₀ L h' (fun y => if y = ("due" : PySem.Str) then some (.ref DL) else m y) → (∀ p ∈ news, p.1 < DL) → News h₀ L h' ((DL, listOf (strValues []).toArray 0) :: news) → Q .next { s with heap := h', toks := tk' }) :
    wpAny (model PySem.Challenge.rw_rw0051_01.row.prog w) (cT dp un gd (envOfC qn sc L a cd) outer) (exec st (envOfC qn sc L a cd)) Q E s := by
  have e : lawSt PySem.Challenge.rw_rw0051_01.row.prog 13 = some (_, _) := rfl
  rw [e] at hst
  cases hst
  clear e
  revert X
  k_fill
  intro X
  k_steps
  refine' hret _ _ _ ?t ?F ?lt ?N
  case F => k_asm
  case N => k_asm
  case t => first | assumption | (dsimp only; omega)
  case lt => exact fun p hp => PySem.W.kst_ltOf (by assumption) p hp
end
end Mine
end SHs1
section STx1
namespace Mine
theorem fresh26 : True := by
  w_top off
  trivial
end Mine
open PySem PySem.W PyProof.Rows PySem.Calls
set_option Elab.async false
set_option maxRecDepth 100000
set_option maxHeartbeats 8000000
set_option pp.maxSteps 400
set_option autoImplicit false
namespace Mine
theorem ct_dressed (w : World) (l : List Nat) (mn : Nat) (t u : Tok) (hl : l.length ≤ 30000) (own : List (Addr × Obj)) :
    Ct w 20 200 163 [.str (S l) t, .int (mn : Int) u] own True (fun v n' => ∃ t, v = .str (S (if mn = 0 then [34] ++ dressQ l ++ [34] else dressB l)) t ∧ n' = own) := by
  by_cases h : mn = 0
  · subst h
    exact ct_dressed0 w l 0 t u rfl hl own
  · rw [if_neg h]
    exact ct_dressed1 w l mn t u (by omega) hl own
theorem seedWord_len (D A n : Nat) (hD : D ≤ 100) (hA : A ≤ 100) (h : Int) : (wordOf D A (sdAlong n) (nmTab h) 0).length ≤ 30000 := by
  unfold wordOf
  rw [wd_len]
  have := spells_len (nmTab_len h) 0 (sdAlong n)
  have e : (sdAlong n).length = 3 := rfl
  rw [e] at this
  omega
/-- target and body of the text loop -/
def textIn (P : Program) : Option (Scope × Expr × List Stmt) := match lawSt P 7 with
  | some (sc, .For t _ b _ _) => some (sc, t, b)
  | _ => none
/-- the sign behind a word -/
def wsOf (n : Nat) : Nat := [10, 32, 9, 13].getD (n / 30 % 4) 0
/-- a seed's word, dressed -/
def seedText (k n3 n : Nat) : List Nat := dressed (wordOf (n % 3 + 1) (n / 3 % 3 + 1) (sdAlong n) (nmTab (k : Int)) 0) (n / 9 % 2) (wsOf n3)
theorem item_ws (n : Nat) : Txt.item (PySem.Str.ofString "\n \t\r") (((n : Int).fdiv 30).fmod 4) = S [wsOf n] := by
  rw [show ((n : Int).fdiv 30).fmod 4 = ((n / 30 % 4 : Nat) : Int) from fdm n 30 4]
  unfold wsOf
  have h : n / 30 % 4 < 4 := Nat.mod_lt _ (by decide)
  generalize n / 30 % 4 = i at h
  rcases i with _ | _ | _ | _ | i
  · decide +kernel
  · decide +kernel
  · decide +kernel
  · decide +kernel
  · omega
section
variable {prog : Program} {w : World} {A : Around} {E : Value → Shared → Prop} {s : Shared}
theorem addT {x y : PySem.Str} {t u : Tok} {Q : Value → Shared → Prop} (ht : 1 ≤ s.toks) (hsz : x.length + y.length ≤ sizeLine) (h : ∀ t' tk, 1 ≤ tk → Q (.str (x ++ y) t') { s with toks := tk }) : wpAny (model prog w) A (binaryOp .Add (.str x t) (.str y u)) Q E s :=
  wpAny_with_toks (n := 1) ht (PyProof.Rows.add_str (fun t' tk htk => h t' tk htk) hsz)
theorem iaddT {x y : PySem.Str} {t u : Tok} {Q : Value → Shared → Prop} (ht : 1 ≤ s.toks) (hsz : x.length + y.length ≤ sizeLine) (h : ∀ t' tk, 1 ≤ tk → Q (.str (x ++ y) t') { s with toks := tk }) : wpAny (model prog w) A (inplaceOp .Add (.str x t) (.str y u)) Q E s :=
  wpAny_with_toks (n := 1) ht (PyProof.Rows.iadd_str (fun t' tk htk => h t' tk htk) hsz)
end
theorem dressed_len (l : List Nat) : (dressQ l).length ≤ 2 * l.length ∧ (dressB l).length ≤ 2 * l.length := by
  unfold dressQ dressB
  constructor
  · induction l with
    | nil => simp
    | cons c l ih =>
      simp only [List.map_cons, List.flatten_cons, List.length_append, List.length_cons]
      have : (if c = 34 ∨ c = 92 then [92, c] else [c]).length ≤ 2 := by split <;> simp
      omega
  · induction l with
    | nil => simp
    | cons c l ih =>
      simp only [List.map_cons, List.flatten_cons, List.length_append, List.length_cons, List.length_nil]
      omega
theorem seedText_eq (k n3 n : Nat) : S (if n / 9 % 2 = 0 then [34] ++ dressQ (wordOf (n % 3 + 1) (n / 3 % 3 + 1) (sdAlong n) (nmTab (k : Int)) 0) ++ [34] else dressB (wordOf (n % 3 + 1) (n / 3 % 3 + 1) (sdAlong n) (nmTab (k : Int)) 0)) ++ S [wsOf n3] = S (seedText k n3 n) := by
  rw [S_append]; rfl
theorem seedText_len (k n3 n : Nat) : (seedText k n3 n).length ≤ 70000 := by
  unfold seedText dressed
  have h := seedWord_len (n % 3 + 1) (n / 3 % 3 + 1) n (by omega) (by omega) (k : Int)
  have d := dressed_len (wordOf (n % 3 + 1) (n / 3 % 3 + 1) (sdAlong n) (nmTab (k : Int)) 0)
  rw [List.length_append]
  split
  · simp only [List.length_append, List.length_cons, List.length_nil]; omega
  · simp only [List.length_cons, List.length_nil]; omega
def textNames : List PySem.Str := ["p", "q", "along", "manner", "text"]
end Mine
local macro_rules | `(tactic| walk_at "call ref") => `(tactic| (k_here; (k_dflt (show wpAny _ _ (call (Value.ref 158) [Value.int _ _, Value.int _ _, Value.ref _, Value.int _ _, Value.ref _]) _ _ _)); k_dflt (refine' Mine.ct_useA (Mine.ct_wordI _ _ _ 0 _ _ _ _ _ _ _ _ _ _ _ ?wi ?hA ?hD2 ?hA2 ?hw2 ?hcs ?hxs (Mine.nmTab_len _) ?lo ?hn _ ?h1 ?h2) trivial ?_; (case wi => exact rfl); (case h1 => k_ownIn); (case h2 => k_ownIn); (case hn => assumption); (case lo => assumption); (case hxs => assumption); (case hcs => first | assumption | exact Nat.le_refl 3); (case hA => omega); (case hD2 => omega); (case hA2 => omega); (case hw2 => omega); k_whole; intro _ _ _ _ _ _ _ hp9; obtain ⟨⟨_, e1⟩, e2⟩ := hp9; subst e1; subst e2; (try k_sweep))))
local macro_rules | `(tactic| walk_at "call ref") => `(tactic| (k_here; (k_dflt (show wpAny _ _ (call (Value.ref 163) [Value.str _ _, Value.int _ _]) _ _ _)); k_dflt (refine' Mine.ct_useA (Mine.ct_dressed _ _ _ _ _ ?hl _) trivial ?_; (case hl => exact Mine.seedWord_len _ _ _ (by omega) (by omega) _); k_whole; intro _ _ _ _ _ _ _ hp9; obtain ⟨_, e1, e2⟩ := hp9; subst e1; subst e2; (try k_sweep))))
namespace Mine
section
variable {w : World} {p : Program} {loose : List Str} {mean : ExcName → Option Value} {mg mb : Str → Option Value} {dp un : Nat} {gd : Option (List Code)} {outer : List Env} {A₀ : Around} {base h₀ : Heap} {L : Addr} {s : Shared} {E : Value → Shared → Prop} {Q : Flow → Shared → Prop} {m : PySem.Str → Option Value} {sc : Scope} {st : Stmt} {body : List Stmt} {tg : Expr} {qn : PySem.Str} {a : Addr} {cd : Value}
theorem textTurn (hst : textIn PySem.Challenge.rw_rw0051_01.row.prog = some (sc, tg, body)) {k n n3 : Nat} {txt : List Nat} (htxt : txt.length ≤ 1000000) {xs : List (PySem.Str × Tok)} (hxs : xs.map (·.1) = ones (sdAlong n)) {T AL ND : Addr} {cx : Nat} {o : Obj} (lo : (ND == sysModules) = false) (hn : NamesOf PySem.Challenge.rw_rw0051_01.row.prog w o (nmTab (k : Int))) {own : List (Addr × Obj)} {u1 u2 u3 : Tok} (hAL : (AL, listOf (strValues xs).toArray cx) ∈ own) (hND : (ND, o) ∈ own)
    (F : Fr h₀ L s.heap m) (N : News h₀ L s.heap ((T, seedObj n AL u1 u2 u3) :: own)) (B : Below A₀ base outer h₀) (X : (hd.heap_39 w.params).In h₀) (T9 : Top p loose mean mg mb h₀) (hdp : dp + 60 < recursionLimit) (hu : un + 600 < cLine) (ht : 1 ≤ s.toks) {t1 t2 : Tok}
    (h1 : m ("third" : PySem.Str) = some (.int (n3 : Int) t1)) (h5 : m ("names" : PySem.Str) = some (.ref ND)) (h6 : m ("text" : PySem.Str) = some (.str (S txt) t2))
    (hret : ∀ h' tk' m' t, 1 ≤ tk' → Fr h₀ L h' m' → AgOff textNames m m' → m' ("text" : PySem.Str) = some (.str (S (txt ++ seedText k n3 n)) t) → News h₀ L h' ((T, seedObj n AL u1 u2 u3) :: own) → Q .next { s with heap := h', toks := tk' }) :
    wpAny (model PySem.Challenge.rw_rw0051_01.row.prog w) (cT dp un gd (envOfC qn sc L a cd) outer) (assign tg (envOfC qn sc L a cd) (.ref T)) (fun _ s₃ => wpAny (model PySem.Challenge.rw_rw0051_01.row.prog w) (cT dp un gd (envOfC qn sc L a cd) outer) (execs body (envOfC qn sc L a cd)) Q E s₃) E s := by
  have e : textIn PySem.Challenge.rw_rw0051_01.row.prog = some (_, _, _) := rfl
  rw [e] at hst
  cases hst
  clear e
  revert X
  k_fill
  intro X
  have hz0 := AgOff.ch4 (xs := textNames) h1 h5 h6 h6
  replace F := Fr_ch4 "third" "names" "text" "text" F h1 h5 h6 h6
  k_steps
  rw [item_ws]
  refine addT (by first | assumption | (dsimp only; omega)) ?sz fun t8 k8 htk8 => ?_
  case sz => (have := seedText_len k n3 n; have e9 := congrArg PySem.Str.length (seedText_eq k n3 n); rw [S_len] at e9; simp only [S_len, sizeLine_eq] at e9 ⊢; unfold seedText dressed at this; rw [List.length_append] at this; omega)
  rw [seedText_eq]
  refine iaddT htk8 ?sz fun t9 k9 htk9 => ?_
  case sz => (have := seedText_len k n3 n; simp only [S_len, sizeLine_eq]; omega)
  rw [S_append]
  k_steps
  exact hret _ _ _ _ (by assumption) (by k_asm) (by repeat (first | exact hz0 | refine AgOff.set ?_ (by decide))) (by exact rfl) (by k_asm)
theorem st7 (hst : lawSt PySem.Challenge.rw_rw0051_01.row.prog 7 = some (sc, st)) {k n1 n2 n3 : Nat} {xs1 xs2 : List (PySem.Str × Tok)} (hxs1 : xs1.map (·.1) = ones (sdAlong n1)) (hxs2 : xs2.map (·.1) = ones (sdAlong n2)) {SL T1 T2 AL1 AL2 ND : Addr} {cs1 cx1 cx2 : Nat} {o : Obj} (lo : (ND == sysModules) = false) (hn : NamesOf PySem.Challenge.rw_rw0051_01.row.prog w o (nmTab (k : Int))) {own : List (Addr × Obj)} {u1 u2 u3 v1 v2 v3 : Tok}
    (hSL : (SL, listOf [.ref T1, .ref T2].toArray cs1) ∈ own) (hT1 : (T1, seedObj n1 AL1 u1 u2 u3) ∈ own) (hT2 : (T2, seedObj n2 AL2 v1 v2 v3) ∈ own) (hAL1 : (AL1, listOf (strValues xs1).toArray cx1) ∈ own) (hAL2 : (AL2, listOf (strValues xs2).toArray cx2) ∈ own) (hND : (ND, o) ∈ own)
    (F : Fr h₀ L s.heap m) (N : News h₀ L s.heap own) (B : Below A₀ base outer h₀) (X : (hd.heap_39 w.params).In h₀) (T9 : Top p loose mean mg mb h₀) (hdp : dp + 60 < recursionLimit) (hu : un + 600 < cLine) (ht : 1 ≤ s.toks) {t1 t2 : Tok}
    (h1 : m ("third" : PySem.Str) = some (.int (n3 : Int) t1)) (h2 : m ("seeds" : PySem.Str) = some (.ref SL)) (h5 : m ("names" : PySem.Str) = some (.ref ND)) (h6 : m ("text" : PySem.Str) = some (.str (S []) t2))
    (hret : ∀ h' tk' m' t, 1 ≤ tk' → Fr h₀ L h' m' → AgOff textNames m m' → m' ("text" : PySem.Str) = some (.str (S (seedText k n3 n1 ++ seedText k n3 n2)) t) → News h₀ L h' own → Q .next { s with heap := h', toks := tk' }) :
    wpAny (model PySem.Challenge.rw_rw0051_01.row.prog w) (cT dp un gd (envOfC qn sc L a cd) outer) (exec st (envOfC qn sc L a cd)) Q E s := by
  have e : lawSt PySem.Challenge.rw_rw0051_01.row.prog 7 = some (_, _) := rfl
  rw [e] at hst
  cases hst
  clear e
  revert X
  k_fill
  intro X
  have hch := AgOff.ch2 (xs := textNames) h2 h2
  replace F := Fr_ch2 "seeds" "seeds" F h2 h2
  refine forWT (by k_asm) ht (fun _ => rfl) ?_
  k_steps
  intro ht9
  refine' forAt_list (vs := [.ref T1, .ref T2]) (fun i m' n' => AgOff textNames m m' ∧ (∃ t, m' ("text" : PySem.Str) = some (.str (S ((if 0 < i then seedText k n3 n1 else []) ++ (if 1 < i then seedText k n3 n2 else []))) t)) ∧ n' = own) ?hh ?F ?N ?hm ?ht ?hj ?turn ?done
  case hh => exact rfl
  case F => k_asm
  case N => k_asm
  case hm => exact hSL
  case ht => first | assumption | (dsimp only; omega)
  case hj => exact ⟨hch, ⟨t2, h6⟩, rfl⟩
  case turn =>
    rintro I oI i v m₁ news₁ h tk E' hI hv ⟨hag, ⟨t3, hx3⟩, rfl⟩ hl htk F N off
    have hN : ∀ {T : Addr} {oT : Obj}, (T, oT) ∈ news₁ → News h₀ L h ((T, oT) :: (I, oI) :: news₁) := by
      intro T oT hT y hy
      rcases List.mem_cons.mp hy with rfl | hy
      · exact N _ (.tail _ hT)
      · exact N _ hy
    have fin : ∀ {T : Addr} {oT : Obj} {h' : Heap} {tk' : Nat} {m' : PySem.Str → Option Value} {t : Tok}, 1 ≤ tk' → Fr h₀ L h' m' → AgOff textNames m₁ m' → News h₀ L h' ((T, oT) :: (I, oI) :: news₁) → m' ("text" : PySem.Str) = some (.str (S ((if 0 < i + 1 then seedText k n3 n1 else []) ++ (if 1 < i + 1 then seedText k n3 n2 else []))) t) →
        FTurn h₀ L s I oI (fun m' n' => (AgOff textNames m m' ∧ (∃ t, m' ("text" : PySem.Str) = some (.str (S ((if 0 < i + 1 then seedText k n3 n1 else []) ++ (if 1 < i + 1 then seedText k n3 n2 else []))) t)) ∧ n' = news₁) ∧ (SL, listOf [.ref T1, .ref T2].toArray cs1) ∈ n') Q .next { s with heap := h', toks := tk' } := by
      intro T oT h' tk' m' t htk' F' hag' N' hd2
      exact FTurn.intro news₁ F' N' htk' (fun y hy => .tail _ hy) off ⟨⟨AgOff.trans hag hag', ⟨t, hd2⟩, rfl⟩, hSL⟩
    have g1 := AgOff.get (y := "third") hag h1
    have g5 := AgOff.get (y := "names") hag h5
    have len : ∀ n, (seedText k n3 n).length ≤ 70000 := seedText_len k n3
    rcases i with _ | _ | i
    · cases hv
      refine textTurn (k := k) (n := n1) (n3 := n3) (txt := []) (by rfl) (by simp) hxs1 lo hn (.tail _ hAL1) (.tail _ hND) (by k_asm) (hN hT1) B X T9 hdp hu (by first | assumption | (dsimp only; omega)) g1 g5 hx3 ?_
      intro h' tk' m' t htk' F' hag' hd2 N'
      exact fin (t := t) htk' F' hag' N' (by rw [hd2]; simp)
    · cases hv
      have hx3' : m₁ ("text" : PySem.Str) = some (.str (S (seedText k n3 n1)) t3) := by rw [hx3]; simp
      refine textTurn (k := k) (n := n2) (n3 := n3) (txt := seedText k n3 n1) (by rfl) (by have := len n1; omega) hxs2 lo hn (.tail _ hAL2) (.tail _ hND) (by k_asm) (hN hT2) B X T9 hdp hu (by first | assumption | (dsimp only; omega)) g1 g5 hx3' ?_
      intro h' tk' m' t htk' F' hag' hd2 N'
      exact fin (t := t) htk' F' hag' N' (by rw [hd2]; simp)
    · cases hv
  case done =>
    rintro h tk m' news' htk ⟨hag, ⟨t3, hx3⟩, rfl⟩ F N
    exact hret h tk m' t3 htk F hag hx3 N
end
end Mine
end STx1
section SLx9
local macro_rules | `(tactic| walk_at "z") => `(tactic| skip)
namespace Mine
theorem fresh27 : True := by
  w_top off
  trivial
end Mine
open PySem PySem.W PyProof.Rows PySem.Calls
set_option Elab.async false
set_option maxRecDepth 100000
set_option maxHeartbeats 8000000
set_option pp.maxSteps 400
set_option autoImplicit false
namespace Mine
theorem runA_le : ∀ (l tok : List Nat), (runA tok l).2.length ≤ l.length
  | [], _ => Nat.le_refl _
  | [c], tok => by
    unfold runA
    split
    · simp
    · split
      · simp
      · show ([] : List Nat).length ≤ 1; simp
  | c :: d :: l, tok => by
    unfold runA
    split
    · simp
    · split
      · have := runA_le l (tok ++ [d]); simp only [List.length_cons]; omega
      · have := runA_le (d :: l) (tok ++ [c]); simp only [List.length_cons] at this ⊢; omega
theorem runQ_le : ∀ (l tok : List Nat), (runQ tok l).2.length ≤ l.length
  | [], _ => Nat.le_refl _
  | [c], tok => by
    unfold runQ
    split
    · simp
    · split
      · simp
      · show ([] : List Nat).length ≤ 1; simp
  | c :: d :: l, tok => by
    unfold runQ
    split
    · simp
    · split
      · have := runQ_le l (tok ++ [d]); simp only [List.length_cons]; omega
      · have := runQ_le (d :: l) (tok ++ [c]); simp only [List.length_cons] at this ⊢; omega
theorem lexTok_le : ∀ l : List Nat, (lexTok l).2.length ≤ l.length
  | [] => Nat.le_refl _
  | c :: l => by
    unfold lexTok
    split
    · have := lexTok_le l; simp only [List.length_cons]; omega
    · split
      · have := runQ_le l []; simp only [List.length_cons]; omega
      · split
        · have := runA_le (l.drop 1) (l.take 1); rw [List.length_drop] at this; simp only [List.length_cons]; omega
        · have := runA_le l [c]; simp only [List.length_cons]; omega
theorem lexTok_le2 {l : List Nat} {k : Nat} (h : l.length ≤ k) : (lexTok l).2.length ≤ k := Nat.le_trans (lexTok_le l) h
end Mine
local macro_rules | `(tactic| walk_at "call ref") => `(tactic| (k_here; (k_dflt (show wpAny _ _ (call (Value.ref 59) [Value.ref _]) _ _ _)); k_dflt (refine' Mine.ct_useA (Mine.ct_getE _ _ (by assumption) _ _ _ _ _ ?hoff _ _ ?hy ?hl) trivial ?_; (case hoff => first | assumption | exact Mine.off_cons (by assumption) (by assumption)); (case hy => assumption); (case hl => first | assumption | omega); k_whole; intro _ _ _ _ _ N' _ hp9; obtain ⟨_, _, _, _, _, e1, _, _, e2⟩ := hp9; subst e1; subst e2; (have hle9 := Mine.lexTok_le2 (by assumption)); (try k_sweep); (try dsimp only [Mine.lexLed, List.cons_append, List.nil_append] at N'))))
local macro_rules | `(tactic| walk_at "call ref") => `(tactic| (k_here; (k_dflt (show wpAny _ _ (call (Value.ref 66) [Value.ref _, Value.str _ _]) _ _ _)); k_dflt (refine' Mine.ct_useA (Mine.ct_pushL _ _ (by assumption) _ _ _ _ _ _ _ ?hoff _ _) ?hp ?_; (case hoff => first | assumption | exact Mine.off_cons (by assumption) (by assumption)); (case hp => first | assumption | omega | (simp only [List.length_append, List.length_cons, List.length_nil]; omega)); k_whole; intro _ _ _ _ _ N' _ hp9; obtain ⟨e1, e2⟩ := hp9; subst e1; subst e2; (try k_sweep); (try dsimp only [Mine.lexLed, List.cons_append, List.nil_append] at N'))))
namespace Mine
section
variable {w : World} {p : Program} {loose : List Str} {mean : ExcName → Option Value} {mg mb : Str → Option Value} {dp un : Nat} {gd : Option (List Code)} {outer : List Env} {A₀ : Around} {base h₀ : Heap} {L : Addr} {s : Shared} {E : Value → Shared → Prop} {Q : Flow → Shared → Prop} {m : PySem.Str → Option Value} {sc : Scope} {st : Stmt} {qn : PySem.Str} {a : Addr} {cd : Value}
theorem st9 (hst : lawSt PySem.Challenge.rw_rw0051_01.row.prog 9 = some (sc, st)) (X9 : LexA) (ok : LexOk w X9) {line : Int} {u : Tok} {nq ny : Nat} {ys : List (PySem.Str × Tok)} {l : List Nat} (hys : ys.map (·.1) = ones l.reverse) (hl : l.length ≤ 100000) {own : List (Addr × Obj)} (hoff : OwnOff own X9.adrs)
    (F : Fr h₀ L s.heap m) (N : News h₀ L s.heap (lexLed X9 line u [] nq ys ny ++ own)) (B : Below A₀ base outer h₀) (X : (hd.heap_39 w.params).In h₀) (T9 : Top p loose mean mg mb h₀) (hdp : dp + 160 < recursionLimit) (hu : un + 1600 < cLine) (ht : 1 ≤ s.toks)
    (h3 : m ("lexer" : PySem.Str) = some (.ref X9.x))
    (hret : ∀ h' tk' m' line' u' t1 t2 nq' ny' ys', 1 ≤ tk' → Fr h₀ L h' m' → AgOff ["word"] m m' → ys'.map (·.1) = ones (lexTok (lexTok l).2).2.reverse → line' + ((lexTok (lexTok l).2).2.count 10 : Nat) = line + (l.count 10 : Nat) →
      News h₀ L h' (lexLed X9 line' u' [(S (lexTok l).1, t1), (S (lexTok (lexTok l).2).1, t2)] nq' ys' ny' ++ own) → Q .next { s with heap := h', toks := tk' }) :
    wpAny (model PySem.Challenge.rw_rw0051_01.row.prog w) (cT dp un gd (envOfC qn sc L a cd) outer) (exec st (envOfC qn sc L a cd)) Q E s := by
  have e : lawSt PySem.Challenge.rw_rw0051_01.row.prog 9 = some (_, _) := rfl
  rw [e] at hst
  cases hst
  clear e
  revert X
  k_fill
  intro X
  have hch := AgOff.ch2 (xs := ["word"]) h3 h3
  replace F := Fr_ch2 "lexer" "lexer" F h3 h3
  refine forWT (by k_asm) ht (fun _ => rfl) ?_
  dsimp only [lexLed, List.cons_append, List.nil_append] at N
  k_steps
  intro ht9
  rename News _ _ _ _ => N9
  rename_i t9a u9a ny9a ys9a line9a hys9a hli9a hle9a ha tka htka t9 u9 ny9 ys9 line9 hys9 hli9 hle9 LL hh F9 q1 q2 q3 q4 q5 q6 q7 q8 q9 l1
  have hLa : ∀ b ∈ X9.adrs, LL ≠ b := by
    intro b hb
    simp only [LexA.adrs, List.mem_cons, List.not_mem_nil, or_false] at hb
    rcases hb with rfl | rfl | rfl | rfl | rfl | rfl | rfl | rfl | rfl <;> exact Nat.ne_of_gt (by with_reducible assumption)
  have N2 : News h₀ L hh (lexLed X9 line9 u9 [] nq ys9 ny9 ++ (LL, listOf [.str (S (lexTok l).1) t9a, .str (S (lexTok (lexTok l).2).1) t9].toArray 0) :: own) := fun y hy => by
    rcases List.mem_append.mp hy with hy | hy
    · exact N9 _ (.tail _ (List.mem_append_left own hy))
    · rcases List.mem_cons.mp hy with rfl | hy
      · exact N9 _ (.head _)
      · exact N9 _ (.tail _ (List.mem_append_right (lexLed X9 line9 u9 [] nq ys9 ny9) hy))
  clear N9
  generalize hoL : (listOf [.str (S (lexTok l).1) t9a, .str (S (lexTok (lexTok l).2).1) t9].toArray 0 : Obj) = oL at N2
  refine' forAt_list (l := LL) (nn := 0) (vs := [.str (S (lexTok l).1) t9a, .str (S (lexTok (lexTok l).2).1) t9]) (fun i m' n' => ∃ qs nq, AgOff ["word"] m m' ∧ qs = [(S (lexTok l).1, t9a), (S (lexTok (lexTok l).2).1, t9)].take i ∧ n' = lexLed X9 line9 u9 qs nq ys9 ny9 ++ (LL, oL) :: own) ?hh ?F N2 ?hm ?ht ?hj ?turn ?done
  case hh => exact rfl
  case F => k_asm
  case hm => rw [hoL]; exact List.mem_append_right _ (.head _)
  case ht => exact ht9
  case hj => exact ⟨[], nq, hch, rfl, rfl⟩
  case turn =>
    rintro I oI i v m₁ news₁ h tk E' hI hv ⟨qs, nq1, hag, hqs, rfl⟩ hl2 htk F N off
    rw [hoL] at hl2 ⊢
    have hIa := led_adr (P := fun b => b < I) hI
    obtain ⟨x, tx, rfl, hx⟩ : ∃ x tx, v = .str x tx ∧ [(S (lexTok l).1, t9a), (S (lexTok (lexTok l).2).1, t9)][i]? = some (x, tx) := by
      rcases i with _ | _ | i
      · cases hv; exact ⟨_, _, rfl, rfl⟩
      · cases hv; exact ⟨_, _, rfl, rfl⟩
      · cases hv
    have hq2 : qs.length ≤ 2 := by rw [hqs, List.length_take]; simp; omega
    have hoff2 : OwnOff ((I, oI) :: (LL, oL) :: own) X9.adrs := off_cons (fun b hb => Ne.symm (Nat.ne_of_lt (hIa.1 b hb))) (off_cons hLa hoff)
    have N3 : News h₀ L h (lexLed X9 line9 u9 qs nq1 ys9 ny9 ++ (I, oI) :: (LL, oL) :: own) := fun y hy => by
      rcases List.mem_append.mp hy with hy | hy
      · exact N _ (.tail _ (List.mem_append_left _ hy))
      · rcases List.mem_cons.mp hy with rfl | hy
        · exact N _ (.head _)
        · exact N _ (.tail _ (List.mem_append_right _ hy))
    clear N N2
    have g3 := AgOff.get (y := "lexer") hag h3
    have hz1 := AgOff.ch2 (xs := ["word"]) g3 g3
    replace F := Fr_ch2 "lexer" "lexer" F g3 g3
    generalize hown : (I, oI) :: (LL, oL) :: own = own3 at N3 hoff2
    dsimp only [lexLed, List.cons_append, List.nil_append] at N3
    refine wpAny_assign_Name ?_
    k_steps
    subst hown
    refine FTurn.intro (lexLed X9 line9 u9 (qs ++ [(x, tx)]) (nq1 + 1) ys9 ny9 ++ (LL, oL) :: own) (by k_asm) (show News _ _ _ (lexLed X9 line9 u9 (qs ++ [(x, tx)]) (nq1 + 1) ys9 ny9 ++ (I, oI) :: (LL, oL) :: own) by k_asm) (by assumption) ?sub ?off ⟨⟨qs ++ [(x, tx)], nq1 + 1, AgOff.set (AgOff.trans hag hz1) (by decide), ?d, rfl⟩, List.mem_append_right _ (.head _)⟩
    case sub =>
      intro y hy
      rcases List.mem_cons.mp hy with rfl | hy
      · exact List.mem_append_right _ (.head _)
      · rcases List.mem_append.mp hy with hy | hy
        · exact List.mem_append_left _ hy
        · exact List.mem_append_right _ (.tail _ hy)
    case off => exact led_all (P := fun b => b ≠ I) (fun b hb => Nat.ne_of_lt (hIa.1 b hb)) fun y hy => Nat.ne_of_lt (hIa.2 y hy)
    case d => rw [hqs, List.take_add_one, hx]; rfl
  case done =>
    rintro h tk m' news' htk ⟨qs, nq1, hag, hqs, rfl⟩ F N
    subst hqs
    refine hret h tk m' line9 u9 t9a t9 nq1 ny9 ys9 htk F hag hys9 (by omega) fun y hy => N y ?_
    rcases List.mem_append.mp hy with hy | hy
    · exact List.mem_append_left _ hy
    · exact List.mem_append_right _ (.tail _ hy)
end
end Mine
end SLx9
section SRn1
local macro_rules | `(tactic| walk_at "z") => `(tactic| skip)
local macro_rules | `(tactic| walk_at "z") => `(tactic| skip)
local macro_rules | `(tactic| walk_at "z") => `(tactic| skip)
local macro_rules | `(tactic| walk_at "z") => `(tactic| skip)
namespace Mine
theorem fresh28 : True := by
  w_top off
  trivial
end Mine
open PySem PySem.W PyProof.Rows PySem.Calls
set_option Elab.async false
set_option maxRecDepth 100000
set_option maxHeartbeats 8000000
set_option pp.maxSteps 400
set_option autoImplicit false
namespace Mine
theorem strOk_S {l : List Nat} (h : ∀ c ∈ l, c < 1114112) : PyData.strOk (S l) = true := by
  unfold PyData.strOk
  simpa using h
theorem nm_lt (k : Nat) (hk : k < 5) : ∀ c x, nameAt (nmTab (k : Int)) (S [c]) = some x → ∀ a ∈ x.cps.toList, a < 1114112 := by
  have key : ∀ {ps : List (PySem.Str × PySem.Str)}, (ps.all fun p => p.2.cps.toList.all fun a => decide (a < 1114112)) = true → ∀ c x, nameAt ps (S [c]) = some x → ∀ a ∈ x.cps.toList, a < 1114112 := fun {ps} ha c x hx => by
    unfold nameAt at hx
    cases hq : ps.find? (fun p => p.1 = S [c]) with
    | none => rw [hq] at hx; cases hx
    | some p =>
      rw [hq] at hx
      cases hx
      have := List.all_eq_true.mp ha p (List.mem_of_find?_eq_some hq)
      exact fun a hm => of_decide_eq_true (List.all_eq_true.mp this a hm)
  rcases k with _ | _ | _ | _ | _ | k
  · exact key (by decide +kernel)
  · exact key (by decide +kernel)
  · exact key (by decide +kernel)
  · exact key (by decide +kernel)
  · exact key (by decide +kernel)
  · omega
theorem word_ok (k : Nat) (hk : k < 5) (D A wr : Nat) (cs : List Nat) (hcs : ∀ c ∈ cs, c < 1114112) : PyData.strOk (S (wordOf D A cs (nmTab (k : Int)) wr)) = true := by
  refine strOk_S fun c h => ?_
  unfold wordOf wd at h
  have amp : ∀ {n c : Nat}, c ∈ ampN n → c < 1114112 := fun h => by
    have := mem_ampN h
    simp only [List.mem_cons, List.not_mem_nil, or_false] at this
    omega
  rcases List.mem_append.mp h with h | h
  · rw [(List.mem_replicate.mp h).2]; decide
  · rcases List.mem_cons.mp h with rfl | h
    · decide
    · rcases List.mem_append.mp h with h | h
      · exact amp h
      · obtain ⟨d, hd, h⟩ := List.mem_flatMap.mp h
        cases hn : nameAt (nmTab (k : Int)) (S [d]) with
        | none => rw [spell_none hn, List.mem_singleton] at h; rw [h]; exact hcs d hd
        | some x =>
          rcases wr with _ | wr
          · rw [spell_zero, List.mem_singleton] at h; rw [h]; exact hcs d hd
          · rw [spell_some hn (by omega)] at h
            rcases List.mem_cons.mp h with rfl | h
            · decide
            · rcases List.mem_append.mp h with h | h
              · exact amp h
              · exact nm_lt k hk d x hn c h
theorem sd_lt (n : Nat) : ∀ c ∈ sdAlong n, c < 1114112 := by
  have key : ∀ z, sdSign n z < 1114112 := by
    intro z
    unfold sdSign
    have h8 : n / z % 8 < 8 := Nat.mod_lt _ (by decide)
    generalize n / z % 8 = i at h8
    unfold sdSigns
    rcases i with _ | _ | _ | _ | _ | _ | _ | _ | i
    all_goals simp
    all_goals omega
  intro c hc
  simp only [sdAlong, List.mem_cons, List.not_mem_nil, or_false] at hc
  rcases hc with rfl | rfl | rfl <;> exact key _
theorem ct_getE0 (w : World) (a : LexA) (ok : LexOk w a) (line : Int) (u : Tok) (nq ny : Nat) (own : List (Addr × Obj)) (hoff : OwnOff own a.adrs) (l : List Nat) (ys : List (PySem.Str × Tok)) (hys : ys.map (·.1) = ones l.reverse) (hl : l.length ≤ 100000) (hr : lexTok l = ([], [])) :
    Ct w 100 800 59 [.ref a.x] (lexLed a line u [] nq ys ny ++ own) True
      (fun r n' => ∃ t' u' ny', r = .str (S []) t' ∧ n' = lexLed a (line + (l.count 10 : Nat)) u' [] nq [] ny' ++ own) :=
  (ct_getE w a ok line u nq ny own hoff l ys hys hl).perm (fun _ h => h) fun r n hP => by
    obtain ⟨t', u', ny', ys', line', e1, e2, e3, rfl⟩ := hP
    rw [hr] at e1 e2 e3
    have hy : ys' = [] := List.map_eq_nil_iff (f := Prod.fst).mp (by rw [e2]; rfl)
    have hl' : line' = line + (l.count 10 : Nat) := by simp at e3; omega
    subst hy hl'
    exact ⟨_, fun _ h => h, t', u', ny', e1, rfl⟩
theorem count_nl (l : List Nat) : Txt.count (S l) (PySem.Str.ofString "\n") = ((l.count 10 : Nat) : Int) := by
  rw [of_lf, show (S [10] : PySem.Str) = ⟨#[10]⟩ from rfl, PyProof.Rows.count_is]
  show PySem.Spec.countIn _ (l.map fun n => PyData.str ⟨#[n]⟩) = _
  induction l with
  | nil => rfl
  | cons c l ih =>
    rw [List.map_cons, PySem.Spec.countIn, ih, List.count_cons]
    by_cases h : c = 10
    · subst h; simp [PySem.Spec.same]; try omega
    · have : (c == 10) = false := by simpa using h
      have h2 : ¬ (10 = c) := fun e => h e.symm
      simp [PySem.Spec.same, this, h, h2]
theorem two_g (g : Nat) : (2 : Int) * (g : Int) + 2 = ((2 * g + 2 : Nat) : Int) := by omega
theorem strValues_len (xs : List (PySem.Str × Tok)) : (strValues xs).length = xs.length := by simp [strValues]
theorem carried_strs : ∀ xs : List (PySem.Str × Tok), CarriedAll (strValues xs) (xs.map fun p => PyData.str p.1)
  | [] => .nil
  | p :: xs => .cons (.str p.1 p.2) (carried_strs xs)
theorem canLay_strs : ∀ xs : List (PySem.Str × Tok), (∀ p ∈ xs, PyData.strOk p.1 = true) → PyData.canLayAll0 (xs.map fun p => PyData.str p.1) = true
  | [], _ => rfl
  | p :: xs, h => by simp [PyData.canLayAll0, PyData.canLay0, canLay_strs xs fun q hq => h q (.tail _ hq), h p (.head _)]
theorem depth_strs : ∀ xs : List (PySem.Str × Tok), PyData.depthAll (xs.map fun p => PyData.str p.1) = 0
  | [] => rfl
  | p :: xs => by simp [PyData.depthAll, PyData.depth, depth_strs xs]
theorem shaped_strs (xs : List (PySem.Str × Tok)) (h : ∀ p ∈ xs, PyData.strOk p.1 = true) : SeqAt.shaped (.list (xs.map fun p => PyData.str p.1)) = true := by
  simp [SeqAt.shaped, PyData.canLay0, PyData.depth, canLay_strs xs h, depth_strs]
section
variable {prog : Program} {w : World} {A : Around} {E : Value → Shared → Prop} {s : Shared} {h₀ : Heap} {L : Addr} {m : PySem.Str → Option Value} {news : List (Addr × Obj)}
theorem eq_texts {a b : Addr} {xs ys : List (PySem.Str × Tok)} {n1 n2 : Nat} {Q : Value → Shared → Prop} (N : News h₀ L s.heap news) (h1 : (a, listOf (strValues xs).toArray n1) ∈ news) (h2 : (b, listOf (strValues ys).toArray n2) ∈ news) (e : xs.map (·.1) = ys.map (·.1)) (hok : ∀ x ∈ xs.map (·.1), PyData.strOk x = true) (hu : A.units + 64 < cLine) (h : Q (.bool true) s) :
    wpAny (model prog w) A (compareOp .Eq (.ref a) (.ref b)) Q E s := by
  have ha : s.heap.IsList a (strValues xs).toArray := ⟨_, (N _ h1).1, rfl, _, rfl⟩
  have hb : s.heap.IsList b (strValues ys).toArray := ⟨_, (N _ h2).1, rfl, _, rfl⟩
  have ox : ∀ p ∈ xs, PyData.strOk p.1 = true := fun p hp => hok _ (List.mem_map.mpr ⟨p, hp, rfl⟩)
  have oy : ∀ p ∈ ys, PyData.strOk p.1 = true := fun p hp => hok _ (by rw [e]; exact List.mem_map.mpr ⟨p, hp, rfl⟩)
  refine eq_dataH (reads_newData ha (carried_strs xs)) (reads_newData hb (carried_strs ys)) (shaped_strs _ ox) (shaped_strs _ oy) hu ?_
  have e2 : (xs.map fun p => PyData.str p.1) = ys.map fun p => PyData.str p.1 := by
    have := congrArg (List.map PyData.str) e
    rw [List.map_map, List.map_map] at this
    exact this
  rw [e2, PySem.SeqAt.eqv_refl _ (by simp [PyData.canLay0, canLay_strs _ oy])]
  exact h
theorem slice_uptoN {value slice : PySem.Expr} {l : Addr} {vs : List Value} {nn : Nat} {k : Nat} {ki : Int} {t : Tok} {ops : List Value} {Q : Value → Shared → Prop} (hk : ki = (k : Int)) (F : Fr h₀ L s.heap m) (N : News h₀ L s.heap news) (hm : (l, listOf vs.toArray nn) ∈ news) (hz : vs.length ≤ 100000)
    (h : ∀ D h', Fr h₀ L h' m → News h₀ L h' ((D, listOf (vs.take k).toArray 0) :: news) → (∀ p ∈ news, p.1 < D) → Q (.ref D) { s with heap := h' })
    (hs : subscripted slice false (.ref l) (.ref s.heap.objs.size) = operate ops (getItem (.ref l) (.ref s.heap.objs.size))) (ht : ∀ r, letTemporaryGo value (.ref l) r = pure ()) :
    wpAny (model prog w) A (subscriptTail value slice (.ref l) (.ref s.heap.objs.size)) Q E { s with heap := s.heap.push { cls := .type "slice", data := .fields #[.none, .int ki t, .none] } } := by
  subst hk
  exact kmk_slice3_lit (lo := none) (hi := some (k : Int)) (st := none) F N ⟨_, (N _ hm).1, rfl, _, rfl⟩ (by constructor) (by constructor) (by constructor) (by simp) (by rw [slicePick_upto']) h hs ht (by rw [List.size_toArray, sizeLine_eq]; omega)
end
end Mine
local macro_rules | `(tactic| walk_at "call ref") => `(tactic| (k_here; (k_dflt (show wpAny _ _ (call (Value.ref 59) [Value.ref _]) _ _ _)); k_dflt (refine' Mine.ct_useA (Mine.ct_getE0 _ _ (by assumption) _ _ _ _ _ ?hoff _ _ ?hy ?hl ?hr) trivial ?_; (case hoff => first | assumption | exact Mine.off_cons (by assumption) (by assumption)); (case hy => assumption); (case hl => first | assumption | omega); (case hr => assumption); k_whole; intro _ _ _ _ _ N' _ hp9; obtain ⟨_, _, _, e1, e2⟩ := hp9; subst e1; subst e2; (try k_sweep); (try dsimp only [Mine.lexLed, List.cons_append, List.nil_append] at N'))))
namespace Mine
section
variable {w : World} {p : Program} {loose : List Str} {mean : ExcName → Option Value} {mg mb : Str → Option Value} {dp un : Nat} {gd : Option (List Code)} {outer : List Env} {A₀ : Around} {base h₀ : Heap} {L : Addr} {s : Shared} {E : Value → Shared → Prop} {Q : Flow → Shared → Prop} {m : PySem.Str → Option Value} {sc : Scope} {st : Stmt} {qn : PySem.Str} {a : Addr} {cd : Value}
theorem st15 (hst : lawSt PySem.Challenge.rw_rw0051_01.row.prog 15 = some (sc, st)) {g : Nat} (X9 : LexA) (ok : LexOk w X9) {line : Int} {u : Tok} {nq ny : Nat} {ys : List (PySem.Str × Tok)} {r txt : List Nat} (hys : ys.map (·.1) = ones r.reverse) (hl : r.length ≤ 100000) (hr : lexTok r = ([], [])) (hline : line + (r.count 10 : Nat) = 1 + (txt.count 10 : Nat)) {OL DL : Addr} {outs dues : List (PySem.Str × Tok)} {c c2 : Nat} (hdl : dues.length ≤ 1000) (hdu : outs.map (·.1) = (dues.map (·.1)).take (2 * g + 2)) (hok : ∀ x ∈ outs.map (·.1), PyData.strOk x = true) {own : List (Addr × Obj)} (hoff : OwnOff ((OL, listOf (strValues outs).toArray c) :: (DL, listOf (strValues dues).toArray c2) :: own) X9.adrs)
    (F : Fr h₀ L s.heap m) (N : News h₀ L s.heap (lexLed X9 line u [] nq ys ny ++ (OL, listOf (strValues outs).toArray c) :: (DL, listOf (strValues dues).toArray c2) :: own)) (B : Below A₀ base outer h₀) (X : (hd.heap_39 w.params).In h₀) (T9 : Top p loose mean mg mb h₀) (hdp : dp + 160 < recursionLimit) (hu : un + 1600 < cLine) (ht : 1 ≤ s.toks) {t1 t2 : Tok}
    (h1 : m ("growing" : PySem.Str) = some (.int (g : Int) t1)) (h3 : m ("lexer" : PySem.Str) = some (.ref X9.x)) (h4 : m ("out" : PySem.Str) = some (.ref OL)) (h5 : m ("due" : PySem.Str) = some (.ref DL)) (h6 : m ("text" : PySem.Str) = some (.str (S txt) t2))
    (hret : ∀ h' tk' m', 1 ≤ tk' → Fr h₀ L h' m' → News h₀ L h' own → Q (.ret (.bool true)) { s with heap := h', toks := tk' }) :
    wpAny (model PySem.Challenge.rw_rw0051_01.row.prog w) (cT dp un gd (envOfC qn sc L a cd) outer) (exec st (envOfC qn sc L a cd)) Q E s := by
  have e : lawSt PySem.Challenge.rw_rw0051_01.row.prog 15 = some (_, _) := rfl
  rw [e] at hst
  cases hst
  clear e
  revert X
  k_fill
  intro X
  replace F := Fr_ch5 "growing" "lexer" "out" "due" "text" F h1 h3 h4 h5 h6
  dsimp only [lexLed, List.cons_append, List.nil_append] at N
  iterate 17 walk1
  (with_reducible refine' Mine.slice_uptoN (k := ?kk) ?hk ?F ?N ?hm ?hz ?_ ?s ?t)
  case F => k_asm
  case N => k_asm
  case hm => k_dflt k_mem
  case hk => k_dflt exact Mine.two_g _
  case hz => simp only [Mine.strValues_len]; omega
  case s => with_unfolding_all rfl
  case t => (intro _; with_unfolding_all rfl)
  intro D h7 F7 N7 l1
  have etk : (strValues dues).take (2 * g + 2) = strValues (dues.take (2 * g + 2)) := by unfold strValues; rw [List.map_take]
  rw [etk] at N7
  refine eq_texts (xs := outs) (ys := dues.take (2 * g + 2)) N7 (.tail _ (.tail _ (.tail _ (.tail _ (.tail _ (.tail _ (.tail _ (.tail _ (.tail _ (.tail _ (.head _)))))))))))
    (.head _) (by rw [hdu, List.map_take]) hok (by have hcL9 := cLine_is; dsimp only [cT]; omega) ?_
  dsimp only
  replace N7 := PyProof.Rows.News.tail' N7
  k_steps
  have efin : ((line + ((r.count 10 : Nat) : Int)) == 1 + Txt.count (S txt) (PySem.Str.ofString "\n")) = true := by rw [count_nl, beq_iff_eq]; exact hline
  rw [efin]
  refine hret _ _ _ (by first | assumption | (dsimp only; omega)) (by k_asm) fun y hy => (show News h₀ L _ _ by k_asm) y ?_
  exact List.mem_append_right (lexLed X9 _ _ [] nq [] _) (.tail _ (.tail _ hy))
end
end Mine
end SRn1
end WalkA
section SSd2
namespace Mine
theorem fresh29 : True := by
  w_top off
  trivial
end Mine
open PySem PySem.W PyProof.Rows PySem.Calls
set_option Elab.async false
set_option maxRecDepth 100000
set_option maxHeartbeats 8000000
set_option pp.maxSteps 400
set_option autoImplicit false
namespace Mine
def seedsSt (P : Program) : Option (Scope × Stmt) := match lawSt P 14 with
  | some (sc, .For _ _ [st] _ _) => some (sc, st)
  | _ => none
/-- target and body of the loop over the seeds -/
def seedsIn (P : Program) : Option (Scope × Expr × List Stmt) := match seedsSt P with
  | some (sc, .For t _ b _ _) => some (sc, t, b)
  | _ => none
/-- the due words of a row -/
def seg (k size n : Nat) : List PySem.Str := (rowN size (n % 3 + 1) (n / 3 % 3 + 1)).map (fun x => S (wordOf x.1 x.2 (sdAlong n) (nmTab (k : Int)) (x.2 - (n / 3 % 3 + 1))))
def seedNames : List PySem.Str := ["p", "q", "along", "manner", "dots", "amps"]
section
variable {w : World} {p : Program} {loose : List Str} {mean : ExcName → Option Value} {mg mb : Str → Option Value} {dp un : Nat} {gd : Option (List Code)} {outer : List Env} {A₀ : Around} {base h₀ : Heap} {L : Addr} {s : Shared} {E : Value → Shared → Prop} {Q : Flow → Shared → Prop} {m : PySem.Str → Option Value} {sc : Scope} {st : Stmt} {body : List Stmt} {tg : Expr} {qn : PySem.Str} {a : Addr} {cd : Value}
theorem seedTurn (hst : seedsIn PySem.Challenge.rw_rw0051_01.row.prog = some (sc, tg, body)) {size k n : Nat} (hsz : size = 1 ∨ size = 2 ∨ size = 4 ∨ size = 8) {xs : List (PySem.Str × Tok)} (hxs : xs.map (·.1) = ones (sdAlong n)) {DL T AL ND W : Addr} {dues : List (PySem.Str × Tok)} (hdl : dues.length ≤ 500) {c cx cw : Nat} {o : Obj} {vys : List Value} (hys : AreInts vys waysL) (lo : (ND == sysModules) = false) (hn : NamesOf PySem.Challenge.rw_rw0051_01.row.prog w o (nmTab (k : Int))) {own : List (Addr × Obj)} {u1 u2 u3 : Tok} (hAL : (AL, listOf (strValues xs).toArray cx) ∈ own) (hND : (ND, o) ∈ own) (hW : (W, listOf vys.toArray cw) ∈ own) (hO : OwnOff ((T, seedObj n AL u1 u2 u3) :: own) [DL])
    (F : Fr h₀ L s.heap m) (N : News h₀ L s.heap ((DL, listOf (strValues dues).toArray c) :: (T, seedObj n AL u1 u2 u3) :: own)) (B : Below A₀ base outer h₀) (X : (hd.heap_39 w.params).In h₀) (T9 : Top p loose mean mg mb h₀) (hdp : dp + 60 < recursionLimit) (hu : un + 600 < cLine) (ht : 1 ≤ s.toks) {t1 : Tok}
    (h1 : m ("size" : PySem.Str) = some (.int (size : Int) t1)) (h5 : m ("names" : PySem.Str) = some (.ref ND)) (h6 : m ("due" : PySem.Str) = some (.ref DL)) (h7 : m ("ways" : PySem.Str) = some (.ref W))
    (hret : ∀ h' tk' m' dues' c', 1 ≤ tk' → Fr h₀ L h' m' → AgOff seedNames m m' → dues'.map (·.1) = dues.map (·.1) ++ seg k size n → News h₀ L h' ((DL, listOf (strValues dues').toArray c') :: (T, seedObj n AL u1 u2 u3) :: own) → Q .next { s with heap := h', toks := tk' }) :
    wpAny (model PySem.Challenge.rw_rw0051_01.row.prog w) (cT dp un gd (envOfC qn sc L a cd) outer) (assign tg (envOfC qn sc L a cd) (.ref T)) (fun _ s₃ => wpAny (model PySem.Challenge.rw_rw0051_01.row.prog w) (cT dp un gd (envOfC qn sc L a cd) outer) (execs body (envOfC qn sc L a cd)) Q E s₃) E s := by
  have e : seedsIn PySem.Challenge.rw_rw0051_01.row.prog = some (_, _, _) := rfl
  rw [e] at hst
  cases hst
  clear e
  revert X
  k_fill
  intro X
  iterate 14 walk1
  refine wpAny_execs_cons ?_
  refine rowLoop (size := size) (pp := n % 3 + 1) (q := n / 3 % 3 + 1) (k := k) (cs := sdAlong n) (by rfl) hsz ⟨by omega, by omega⟩ ⟨by omega, by omega⟩ (Nat.le_refl 3) hxs hdl hys lo hn (.tail _ hAL) (.tail _ hND) (.tail _ hW) hO (by k_asm) (by k_asm) B X T9 hdp hu (by first | assumption | (dsimp only; omega)) (by exact h1) (by exact rfl) (by exact rfl) (by exact rfl) (by exact h5) (by exact h6) (by exact h7) ?_
  intro h' tk' m' dues' c' htk' F' hag hd N'
  dsimp only
  refine wpAny_execs_nil ?_
  exact hret h' tk' m' dues' c' htk' F' (AgOff.trans (AgOff.set (AgOff.set (AgOff.set (AgOff.set (AgOff.refl _ _) (by decide)) (by decide)) (by decide)) (by decide)) (AgOff.sub hag (by decide))) hd N'
theorem seg_len {k size n : Nat} (hsz : size = 1 ∨ size = 2 ∨ size = 4 ∨ size = 8) : (seg k size n).length ≤ 8 := by
  unfold seg rowN
  rw [List.length_map, List.length_map, List.length_range]; omega
theorem seedsLoop (hst : seedsSt PySem.Challenge.rw_rw0051_01.row.prog = some (sc, st)) {size k n1 n2 : Nat} (hsz : size = 1 ∨ size = 2 ∨ size = 4 ∨ size = 8) {xs1 xs2 : List (PySem.Str × Tok)} (hxs1 : xs1.map (·.1) = ones (sdAlong n1)) (hxs2 : xs2.map (·.1) = ones (sdAlong n2)) {DL SL T1 T2 AL1 AL2 ND W : Addr} {dues : List (PySem.Str × Tok)} (hdl : dues.length ≤ 400) {c cs1 cx1 cx2 cw : Nat} {o : Obj} {vys : List Value} (hys : AreInts vys waysL) (lo : (ND == sysModules) = false) (hn : NamesOf PySem.Challenge.rw_rw0051_01.row.prog w o (nmTab (k : Int))) {own : List (Addr × Obj)} {u1 u2 u3 v1 v2 v3 : Tok}
    (hSL : (SL, listOf [.ref T1, .ref T2].toArray cs1) ∈ own) (hT1 : (T1, seedObj n1 AL1 u1 u2 u3) ∈ own) (hT2 : (T2, seedObj n2 AL2 v1 v2 v3) ∈ own) (hAL1 : (AL1, listOf (strValues xs1).toArray cx1) ∈ own) (hAL2 : (AL2, listOf (strValues xs2).toArray cx2) ∈ own) (hND : (ND, o) ∈ own) (hW : (W, listOf vys.toArray cw) ∈ own) (hO : OwnOff own [DL])
    (F : Fr h₀ L s.heap m) (N : News h₀ L s.heap ((DL, listOf (strValues dues).toArray c) :: own)) (B : Below A₀ base outer h₀) (X : (hd.heap_39 w.params).In h₀) (T9 : Top p loose mean mg mb h₀) (hdp : dp + 60 < recursionLimit) (hu : un + 600 < cLine) (ht : 1 ≤ s.toks) {t1 : Tok}
    (h1 : m ("size" : PySem.Str) = some (.int (size : Int) t1)) (h2 : m ("seeds" : PySem.Str) = some (.ref SL)) (h5 : m ("names" : PySem.Str) = some (.ref ND)) (h6 : m ("due" : PySem.Str) = some (.ref DL)) (h7 : m ("ways" : PySem.Str) = some (.ref W))
    (hret : ∀ h' tk' m' dues' c', 1 ≤ tk' → Fr h₀ L h' m' → AgOff seedNames m m' → dues'.map (·.1) = dues.map (·.1) ++ seg k size n1 ++ seg k size n2 → News h₀ L h' ((DL, listOf (strValues dues').toArray c') :: own) → Q .next { s with heap := h', toks := tk' }) :
    wpAny (model PySem.Challenge.rw_rw0051_01.row.prog w) (cT dp un gd (envOfC qn sc L a cd) outer) (exec st (envOfC qn sc L a cd)) Q E s := by
  have e : seedsSt PySem.Challenge.rw_rw0051_01.row.prog = some (_, _) := rfl
  rw [e] at hst
  cases hst
  clear e
  revert X
  k_fill
  intro X
  have hch := AgOff.ch2 (xs := seedNames) h1 h2
  replace F := Fr_ch2 "size" "seeds" F h1 h2
  k_steps
  intro ht9
  refine' forAt_list (vs := [.ref T1, .ref T2]) (fun i m' n' => ∃ dues' c', AgOff seedNames m m' ∧ dues'.map (·.1) = dues.map (·.1) ++ (if 0 < i then seg k size n1 else []) ++ (if 1 < i then seg k size n2 else []) ∧ n' = (DL, listOf (strValues dues').toArray c') :: own) ?hh ?F ?N ?hm ?ht ?hj ?turn ?done
  case hh => exact rfl
  case F => k_asm
  case N => k_asm
  case hm => exact .tail _ hSL
  case ht => first | assumption | (dsimp only; omega)
  case hj => exact ⟨dues, c, hch, by simp, rfl⟩
  case turn =>
    rintro I oI i v m₁ news₁ h tk E' hI hv ⟨dues', c', hag, hd', rfl⟩ hl htk F N off
    have hdl' : dues'.length ≤ 500 := by
      have := congrArg List.length hd'
      simp only [List.length_map, List.length_append] at this
      have s1 := seg_len (k := k) (n := n1) hsz
      have s2 := seg_len (k := k) (n := n2) hsz
      have : (if 0 < i then seg k size n1 else []).length ≤ 8 := by split; (· exact s1); (· simp)
      have : (if 1 < i then seg k size n2 else []).length ≤ 8 := by split; (· exact s2); (· simp)
      omega
    have hoI : ∀ {T : Addr} {oT : Obj}, (T, oT) ∈ own → OwnOff ((T, oT) :: (I, oI) :: own) [DL] := by
      intro T oT hT y hy b hb
      rw [List.mem_singleton.mp hb]
      rcases List.mem_cons.mp hy with rfl | hy
      · exact hO _ hT _ (.head _)
      · rcases List.mem_cons.mp hy with rfl | hy
        · exact Ne.symm (Nat.ne_of_lt (hI (DL, listOf (strValues dues).toArray c) (.head _)))
        · exact hO _ hy _ (.head _)
    have hN : ∀ {T : Addr} {oT : Obj}, (T, oT) ∈ own → News h₀ L h ((DL, listOf (strValues dues').toArray c') :: (T, oT) :: (I, oI) :: own) := by
      intro T oT hT y hy
      rcases List.mem_cons.mp hy with rfl | hy
      · exact N _ (.tail _ (.head _))
      · rcases List.mem_cons.mp hy with rfl | hy
        · exact N _ (.tail _ (.tail _ hT))
        · rcases List.mem_cons.mp hy with rfl | hy
          · exact N _ (.head _)
          · exact N _ (.tail _ (.tail _ hy))
    have fin : ∀ {T : Addr} {oT : Obj} {h' : Heap} {tk' : Nat} {m' : PySem.Str → Option Value} {dues2 : List (PySem.Str × Tok)} {c2 : Nat}, 1 ≤ tk' → Fr h₀ L h' m' → AgOff seedNames m₁ m' → News h₀ L h' ((DL, listOf (strValues dues2).toArray c2) :: (T, oT) :: (I, oI) :: own) → dues2.map (·.1) = dues.map (·.1) ++ (if 0 < i + 1 then seg k size n1 else []) ++ (if 1 < i + 1 then seg k size n2 else []) →
        FTurn h₀ L s I oI (fun m' n' => (∃ dues' c', AgOff seedNames m m' ∧ dues'.map (·.1) = dues.map (·.1) ++ (if 0 < i + 1 then seg k size n1 else []) ++ (if 1 < i + 1 then seg k size n2 else []) ∧ n' = (DL, listOf (strValues dues').toArray c') :: own) ∧ (SL, listOf [.ref T1, .ref T2].toArray cs1) ∈ n') Q .next { s with heap := h', toks := tk' } := by
      intro T oT h' tk' m' dues2 c2 htk' F' hag' N' hd2
      refine FTurn.intro ((DL, listOf (strValues dues2).toArray c2) :: own) F' N' htk' ?sub ?off ⟨⟨dues2, c2, AgOff.trans hag hag', hd2, rfl⟩, .tail _ hSL⟩
      case sub =>
        intro y hy
        rcases List.mem_cons.mp hy with rfl | hy
        · exact .tail _ (.tail _ (.head _))
        · rcases List.mem_cons.mp hy with rfl | hy
          · exact .head _
          · exact .tail _ (.tail _ (.tail _ hy))
      case off =>
        intro y hy
        rcases List.mem_cons.mp hy with rfl | hy
        · exact Nat.ne_of_lt (hI (DL, listOf (strValues dues).toArray c) (.head _))
        · exact Nat.ne_of_lt (hI _ (.tail _ hy))
    have g1 := AgOff.get (y := "size") hag h1
    have g5 := AgOff.get (y := "names") hag h5
    have g6 := AgOff.get (y := "due") hag h6
    have g7 := AgOff.get (y := "ways") hag h7
    rcases i with _ | _ | i
    · cases hv
      refine seedTurn (size := size) (k := k) (n := n1) (by rfl) hsz hxs1 hdl' hys lo hn (.tail _ hAL1) (.tail _ hND) (.tail _ hW) (hoI hT1) (by k_asm) (hN hT1) B X T9 hdp hu (by first | assumption | (dsimp only; omega)) g1 g5 g6 g7 ?_
      intro h' tk' m' dues2 c2 htk' F' hag' hd2 N'
      refine fin htk' F' hag' N' ?_
      rw [hd2, hd']; simp
    · cases hv
      refine seedTurn (size := size) (k := k) (n := n2) (by rfl) hsz hxs2 hdl' hys lo hn (.tail _ hAL2) (.tail _ hND) (.tail _ hW) (hoI hT2) (by k_asm) (hN hT2) B X T9 hdp hu (by first | assumption | (dsimp only; omega)) g1 g5 g6 g7 ?_
      intro h' tk' m' dues2 c2 htk' F' hag' hd2 N'
      refine fin htk' F' hag' N' ?_
      rw [hd2, hd']; simp
    · cases hv
  case done =>
    rintro h tk m' news' htk ⟨dues', c', hag, hd', rfl⟩ F N
    exact hret h tk m' dues' c' htk F hag hd' N
end
end Mine
end SSd2
section SDz1
namespace Mine
theorem fresh30 : True := by
  w_top off
  trivial
end Mine
open PySem PySem.W PyProof.Rows PySem.Calls
set_option Elab.async false
set_option maxRecDepth 100000
set_option maxHeartbeats 8000000
set_option pp.maxSteps 400
set_option autoImplicit false
namespace Mine
theorem tup_ne {vs ws : Array Value} (c : Nat) : ({ cls := .type "tuple", data := .seq vs } : Obj) ≠ listOf ws c := fun e => by
  unfold PySem.W.listOf at e
  injection e with e
  simp at e
theorem sizes_len (k n1 n2 i : Nat) : (([1, 2, 4, 8].take i).flatMap (fun size => seg k size n1 ++ seg k size n2)).length ≤ 64 := by
  have s : ∀ size n, (size = 1 ∨ size = 2 ∨ size = 4 ∨ size = 8) → (seg k size n).length ≤ 8 := fun size n h => seg_len h
  have key : ∀ l : List Nat, (∀ x ∈ l, x = 1 ∨ x = 2 ∨ x = 4 ∨ x = 8) → (l.flatMap (fun size => seg k size n1 ++ seg k size n2)).length ≤ 16 * l.length := by
    intro l
    induction l with
    | nil => intro _; simp
    | cons x l ih =>
      intro h
      have h1 := s x n1 (h x (.head _))
      have h2 := s x n2 (h x (.head _))
      have := ih fun y hy => h y (.tail _ hy)
      rw [List.flatMap_cons, List.length_append, List.length_append, List.length_cons]; omega
  have := key ([1, 2, 4, 8].take i) fun x hx => by
    have := List.mem_of_mem_take hx
    simp only [List.mem_cons, List.not_mem_nil, or_false] at this
    exact this
  have h4 : ([1, 2, 4, 8].take i).length ≤ 4 := by rw [List.length_take]; simp; omega
  omega
section
variable {w : World} {p : Program} {loose : List Str} {mean : ExcName → Option Value} {mg mb : Str → Option Value} {dp un : Nat} {gd : Option (List Code)} {outer : List Env} {A₀ : Around} {base h₀ : Heap} {L : Addr} {s : Shared} {E : Value → Shared → Prop} {Q : Flow → Shared → Prop} {m : PySem.Str → Option Value} {sc : Scope} {st : Stmt} {qn : PySem.Str} {a : Addr} {cd : Value}
theorem st14 (hst : lawSt PySem.Challenge.rw_rw0051_01.row.prog 14 = some (sc, st)) {k n1 n2 : Nat} {xs1 xs2 : List (PySem.Str × Tok)} (hxs1 : xs1.map (·.1) = ones (sdAlong n1)) (hxs2 : xs2.map (·.1) = ones (sdAlong n2)) {DL SL T1 T2 AL1 AL2 ND W : Addr} {c cs1 cx1 cx2 cw : Nat} {o : Obj} {vys : List Value} (hys : AreInts vys waysL) (lo : (ND == sysModules) = false) (hn : NamesOf PySem.Challenge.rw_rw0051_01.row.prog w o (nmTab (k : Int))) {own : List (Addr × Obj)} {u1 u2 u3 v1 v2 v3 : Tok}
    (hSL : (SL, listOf [.ref T1, .ref T2].toArray cs1) ∈ own) (hT1 : (T1, seedObj n1 AL1 u1 u2 u3) ∈ own) (hT2 : (T2, seedObj n2 AL2 v1 v2 v3) ∈ own) (hAL1 : (AL1, listOf (strValues xs1).toArray cx1) ∈ own) (hAL2 : (AL2, listOf (strValues xs2).toArray cx2) ∈ own) (hND : (ND, o) ∈ own) (hW : (W, listOf vys.toArray cw) ∈ own) (hO : OwnOff own [DL])
    (F : Fr h₀ L s.heap m) (N : News h₀ L s.heap ((DL, listOf (strValues []).toArray c) :: own)) (B : Below A₀ base outer h₀) (X : (hd.heap_39 w.params).In h₀) (T9 : Top p loose mean mg mb h₀) (hdp : dp + 60 < recursionLimit) (hu : un + 600 < cLine) (ht : 1 ≤ s.toks)
    (h2 : m ("seeds" : PySem.Str) = some (.ref SL)) (h5 : m ("names" : PySem.Str) = some (.ref ND)) (h6 : m ("due" : PySem.Str) = some (.ref DL)) (h7 : m ("ways" : PySem.Str) = some (.ref W))
    (hret : ∀ h' tk' m' dues' c', 1 ≤ tk' → Fr h₀ L h' m' → AgOff ("size" :: seedNames) m m' → dues'.map (·.1) = [1, 2, 4, 8].flatMap (fun size => seg k size n1 ++ seg k size n2) → News h₀ L h' ((DL, listOf (strValues dues').toArray c') :: own) → Q .next { s with heap := h', toks := tk' }) :
    wpAny (model PySem.Challenge.rw_rw0051_01.row.prog w) (cT dp un gd (envOfC qn sc L a cd) outer) (exec st (envOfC qn sc L a cd)) Q E s := by
  have e : lawSt PySem.Challenge.rw_rw0051_01.row.prog 14 = some (_, _) := rfl
  rw [e] at hst
  cases hst
  clear e
  revert X
  k_fill
  intro X
  refine forWT (by k_asm) ht (fun _ => rfl) ?_
  k_steps
  rename_i TT h9 F9 N9 lt1 lt2
  intro ht9
  have hTD : TT ≠ DL := news_ne N9 (.head _) (.tail _ (.head _)) (tup_ne _)
  have N2 : News h₀ L h9 ((DL, listOf (strValues []).toArray c) :: (TT, { cls := .type "tuple", data := .seq #[.int 1 s.toks, .int 2 (s.toks + 1), .int 4 (s.toks + 1 + 1), .int 8 (s.toks + 1 + 1 + 1)] }) :: own) := fun y hy => by
    rcases List.mem_cons.mp hy with rfl | hy
    · exact N9 _ (.tail _ (.head _))
    · rcases List.mem_cons.mp hy with rfl | hy
      · exact N9 _ (.head _)
      · exact N9 _ (.tail _ (.tail _ hy))
  clear N9
  generalize hoT : ({ cls := .type "tuple", data := .seq #[.int 1 s.toks, .int 2 (s.toks + 1), .int 4 (s.toks + 1 + 1), .int 8 (s.toks + 1 + 1 + 1)] } : Obj) = oT at N2
  refine' forAt_tuple (vs := [.int 1 s.toks, .int 2 (s.toks + 1), .int 4 (s.toks + 1 + 1), .int 8 (s.toks + 1 + 1 + 1)]) (fun i m' n' => ∃ dues' c', AgOff ("size" :: seedNames) m m' ∧ dues'.map (·.1) = ([1, 2, 4, 8].take i).flatMap (fun size => seg k size n1 ++ seg k size n2) ∧ n' = (DL, listOf (strValues dues').toArray c') :: (TT, oT) :: own) ?hh ?F N2 ?hm ?ho ?ht ?hj ?turn ?done
  case hh => exact rfl
  case F => k_asm
  case hm => exact .tail _ (.head _)
  case ho => rw [← hoT]; exact ⟨rfl, _, rfl⟩
  case ht => first | assumption | (dsimp only; omega)
  case hj => exact ⟨[], c, AgOff.refl _ _, rfl, rfl⟩
  case turn =>
    rintro I oI i v m₁ news₁ h tk E' hI hv ⟨dues', c', hag, hd', rfl⟩ hl htk F N off
    obtain ⟨size, t1, rfl, hsz, hsi⟩ : ∃ (size : Nat) (t1 : Tok), v = .int (size : Int) t1 ∧ (size = 1 ∨ size = 2 ∨ size = 4 ∨ size = 8) ∧ [1, 2, 4, 8][i]? = some size := by
      rcases i with _ | _ | _ | _ | i
      · cases hv; exact ⟨1, _, rfl, by omega, rfl⟩
      · cases hv; exact ⟨2, _, rfl, by omega, rfl⟩
      · cases hv; exact ⟨4, _, rfl, by omega, rfl⟩
      · cases hv; exact ⟨8, _, rfl, by omega, rfl⟩
      · cases hv
    have hdl' : dues'.length ≤ 400 := by
      have := congrArg List.length hd'
      rw [List.length_map] at this
      rw [this]
      refine Nat.le_trans (sizes_len k n1 n2 i) (by decide)
    have hO2 : OwnOff ((I, oI) :: (TT, oT) :: own) [DL] := by
      intro y hy b hb
      rw [List.mem_singleton.mp hb]
      rcases List.mem_cons.mp hy with rfl | hy
      · exact Ne.symm (Nat.ne_of_lt (hI (DL, listOf (strValues []).toArray c) (.head _)))
      · rcases List.mem_cons.mp hy with rfl | hy
        · exact hTD
        · exact hO _ hy _ (.head _)
    have N3 : News h₀ L h ((DL, listOf (strValues dues').toArray c') :: (I, oI) :: (TT, oT) :: own) := fun y hy => by
      rcases List.mem_cons.mp hy with rfl | hy
      · exact N _ (.tail _ (.head _))
      · rcases List.mem_cons.mp hy with rfl | hy
        · exact N _ (.head _)
        · exact N _ (.tail _ (.tail _ hy))
    clear N N2
    have g2 := AgOff.get (y := "seeds") hag h2
    have g5 := AgOff.get (y := "names") hag h5
    have g6 := AgOff.get (y := "due") hag h6
    have g7 := AgOff.get (y := "ways") hag h7
    refine wpAny_assign_Name ?_
    walk1
    refine wpAny_execs_cons ?_
    have up : ∀ {y}, y ∈ own → y ∈ (I, oI) :: (TT, oT) :: own := fun hy => .tail _ (.tail _ hy)
    refine seedsLoop (size := size) (k := k) (n1 := n1) (n2 := n2) (by rfl) hsz hxs1 hxs2 hdl' hys lo hn (up hSL) (up hT1) (up hT2) (up hAL1) (up hAL2) (up hND) (up hW) hO2 (by k_asm) (by k_asm) B X T9 hdp hu (by first | assumption | (dsimp only; omega)) (by exact rfl) (by exact g2) (by exact g5) (by exact g6) (by exact g7) ?_
    intro h' tk' m' dues2 c2 htk' F' hag' hd2 N'
    dsimp only
    refine wpAny_execs_nil ?_
    refine FTurn.intro ((DL, listOf (strValues dues2).toArray c2) :: (TT, oT) :: own) F' N' htk' ?sub ?off ⟨⟨dues2, c2, AgOff.trans (AgOff.set hag (by decide)) (AgOff.sub hag' fun x hx => .tail _ hx), ?d, rfl⟩, .tail _ (.head _)⟩
    case sub =>
      intro y hy
      rcases List.mem_cons.mp hy with rfl | hy
      · exact .tail _ (.head _)
      · rcases List.mem_cons.mp hy with rfl | hy
        · exact .head _
        · exact .tail _ (.tail _ hy)
    case off =>
      intro y hy
      rcases List.mem_cons.mp hy with rfl | hy
      · exact Nat.ne_of_lt (hI (DL, listOf (strValues []).toArray c) (.head _))
      · exact Nat.ne_of_lt (hI _ (.tail _ hy))
    case d =>
      rw [hd2, hd', List.take_add_one, hsi, List.flatMap_append, List.append_assoc]
      simp
  case done =>
    rintro h tk m' news' htk ⟨dues', c', hag, hd', rfl⟩ F N
    refine hret h tk m' dues' c' htk F hag hd' fun y hy => N y ?_
    rcases List.mem_cons.mp hy with rfl | hy
    · exact .head _
    · exact .tail _ (.tail _ hy)
end
end Mine
end SDz1
section SFn1
open PySem PySem.W PyProof.Rows PySem.Calls
set_option Elab.async false
set_option maxRecDepth 100000
set_option maxHeartbeats 8000000
set_option pp.maxSteps 400
set_option autoImplicit false
namespace Mine
theorem seedText_len2 (k n3 n : Nat) : (seedText k n3 n).length ≤ 1000 := by
  have h : (wordOf (n % 3 + 1) (n / 3 % 3 + 1) (sdAlong n) (nmTab (k : Int)) 0).length ≤ 100 := by
    unfold wordOf
    rw [wd_len]
    have := spells_len (nmTab_len (k : Int)) 0 (sdAlong n)
    have e : (sdAlong n).length = 3 := rfl
    rw [e] at this
    omega
  unfold seedText dressed
  have d := dressed_len (wordOf (n % 3 + 1) (n / 3 % 3 + 1) (sdAlong n) (nmTab (k : Int)) 0)
  rw [List.length_append]
  split
  · simp only [List.length_append, List.length_cons, List.length_nil]; omega
  · simp only [List.length_cons, List.length_nil]; omega
theorem ws_of (n : Nat) : ws (wsOf n) = true ∧ wsOf n ≠ 92 := by
  unfold wsOf
  have h : n / 30 % 4 < 4 := Nat.mod_lt _ (by decide)
  generalize n / 30 % 4 = i at h
  rcases i with _ | _ | _ | _ | i
  · decide
  · decide
  · decide
  · decide
  · omega
theorem word_ne (D A : Nat) (cs : List Nat) (tab : List (PySem.Str × PySem.Str)) (wr : Nat) : wordOf D A cs tab wr ≠ [] := fun h => by
  have := congrArg List.length h
  unfold wordOf at this
  rw [wd_len] at this
  simp at this
/-- the words that are read -/
theorem law_read (k n1 n2 n3 : Nat) : (lexTok (seedText k n3 n1 ++ seedText k n3 n2)).1 = nw (sdAlong n1) (sdAlong n2) k (0, n1 % 3 + 1, n1 / 3 % 3 + 1, 0) ∧
    (lexTok (lexTok (seedText k n3 n1 ++ seedText k n3 n2)).2).1 = nw (sdAlong n1) (sdAlong n2) k (1, n2 % 3 + 1, n2 / 3 % 3 + 1, 0) ∧ lexTok (lexTok (lexTok (seedText k n3 n1 ++ seedText k n3 n2)).2).2 = ([], []) :=
  lex_two _ _ (n1 / 9 % 2) (n2 / 9 % 2) (wsOf n3) (word_ne _ _ _ _ _) (word_ne _ _ _ _ _) (ws_of n3).1 (ws_of n3).2
theorem due_words (k n1 n2 : Nat) : [1, 2, 4, 8].flatMap (fun size => seg k size n1 ++ seg k size n2) = (dueN (n1 % 3 + 1) (n1 / 3 % 3 + 1) (n2 % 3 + 1) (n2 / 3 % 3 + 1)).map (fun n => S (nw (sdAlong n1) (sdAlong n2) k n)) := by
  unfold dueN
  rw [List.map_flatMap]
  congr 1
  funext size
  rw [List.map_append, List.map_map, List.map_map]
  rfl
theorem due_ok (k n1 n2 : Nat) (hk : k < 5) (l : List Nd) : ∀ x ∈ l.map (fun n => S (nw (sdAlong n1) (sdAlong n2) k n)), PyData.strOk x = true := by
  intro x hx
  obtain ⟨n, _, rfl⟩ := List.mem_map.mp hx
  unfold nw
  refine word_ok k hk _ _ _ _ fun c hc => ?_
  split at hc
  · exact sd_lt n1 c hc
  · exact sd_lt n2 c hc
theorem news_off {h₀ h : Heap} {L b : Addr} {o : Obj} {own : List (Addr × Obj)} (N : News h₀ L h ((b, o) :: own)) (hd : ∀ p ∈ own, p.2.data ≠ o.data) : OwnOff own [b] := fun p hp c hc e => by
  rw [List.mem_singleton.mp hc] at e
  have h1 := (N _ (.tail _ hp)).1
  have h2 := (N _ (.head _)).1
  rw [e] at h1
  exact hd p hp (congrArg Obj.data (Option.some.inj (h1.symm.trans h2)))
end Mine
end SFn1
section SLr1
open PySem PySem.W PyProof.Rows PySem.Calls
set_option Elab.async false
set_option maxRecDepth 100000
set_option maxHeartbeats 8000000
set_option pp.maxSteps 400
set_option autoImplicit false
namespace Mine
theorem names_data {prog : Program} {w : World} {o : Obj} {ps : List (PySem.Str × PySem.Str)} (h : NamesOf prog w o ps) : o.data ≠ (tabObj #[]).data := fun e => by
  obtain ⟨vs, hv, es, ep, _, hd, _⟩ := h
  rw [hd] at e
  cases e
def lawTail (P : Program) : Option (Scope × List Stmt) := match P.main.body.getLast? with
  | some (.FunctionDef _ _ (_ :: body) _ _ _ scope _ _ _) => some (scope, body)
  | _ => none
section
variable {w : World} {p : Program} {loose : List Str} {mean : ExcName → Option Value} {mg mb : Str → Option Value} {dp un : Nat} {gd : Option (List Code)} {outer : List Env} {A₀ : Around} {base h₀ : Heap} {L : Addr} {s : Shared} {E : Value → Shared → Prop} {Q : Flow → Shared → Prop} {m : PySem.Str → Option Value} {sc : Scope} {body : List Stmt} {qn : PySem.Str} {a : Addr} {cd : Value}
theorem law_rest (hst : lawTail PySem.Challenge.rw_rw0051_01.row.prog = some (sc, body)) {n1 n2 n3 : Nat} (hn1 : n1 < 1000000000) (hn2 : n2 < 1000000000)
    (F : Fr h₀ L s.heap m) (N : News h₀ L s.heap [(134, tabObj #[])]) (B : Below A₀ base outer h₀) (X : (hd.heap_39 w.params).In h₀) (T9 : Top p loose mean mg mb h₀) (hdp : dp + 160 < recursionLimit) (hu : un + 1600 < cLine) (ht : 1 ≤ s.toks) {t1 t2 t3 : Tok}
    (h1 : m ("first" : PySem.Str) = some (.int (n1 : Int) t1)) (h2 : m ("second" : PySem.Str) = some (.int (n2 : Int) t2)) (h3 : m ("third" : PySem.Str) = some (.int (n3 : Int) t3))
    (hret : ∀ h' tk' m' tb, 1 ≤ tk' → Fr h₀ L h' m' → News h₀ L h' [(134, tabObj tb)] → Q (.ret (.bool true)) { s with heap := h', toks := tk' }) :
    wpAny (model PySem.Challenge.rw_rw0051_01.row.prog w) (cT dp un gd (envOfC qn sc L a cd) outer) (execs body (envOfC qn sc L a cd)) Q E s := by
  have e : lawTail PySem.Challenge.rw_rw0051_01.row.prog = some (_, _) := rfl
  rw [e] at hst
  cases hst
  clear e
  have hk5 : n3 / 6 % 5 < 5 := Nat.mod_lt _ (by decide)
  obtain ⟨k, hk⟩ : ∃ k, n3 / 6 % 5 = k := ⟨_, rfl⟩
  have hd60 : dp + 60 < recursionLimit := by omega
  have hu60 : un + 600 < cLine := by omega
  refine wpAny_execs_cons (st1 (by rfl) hn1 hn2 F N B X T9 hdp hu ht h1 h2 ?_)
  intro hp1 tk1 SL T1 T2 AL1 AL2 u1 u2 u3 v1 v2 v3 xs1 xs2 c1 c2 ht1 F1 hxs1 hxs2 N1
  clear F N ht
  dsimp only
  refine wpAny_execs_cons (st2 (n3 := n3) (by rfl) F1 N1 B X T9 hdp hu ht1 (by exact h3) ?_)
  intro hp2 tk2 tg ht2 F2 N2
  clear F1 N1 ht1
  dsimp only
  refine wpAny_execs_cons (st3 (n3 := n3) (by rfl) F2 N2 B X T9 hdp hu ht2 (by exact h3) ?_)
  rw [hk] at hk5
  intro hp3 tk3 th ht3 F3 N3
  clear F2 N2 ht2
  rw [hk] at F3
  dsimp only
  refine wpAny_execs_cons (st4 (k := k) (by rfl) hk5 F3 N3 B X T9 hdp hu ht3 (by exact rfl) ?_)
  intro hp4 tk4 ht4 F4 N4
  clear F3 N3 ht3
  dsimp only
  refine wpAny_execs_cons (st5 (k := k) (by rfl) hk5 F4 N4 B X T9 hdp hu ht4 (by exact rfl) ?_)
  intro hp5 tk5 ND o ht5 F5 lo hnm N5
  clear F4 N4 ht4
  dsimp only
  refine wpAny_execs_cons (st6 (by rfl) F5 N5 B X T9 hdp hu ht5 ?_)
  intro hp6 tk6 tt ht6 F6 N6
  clear F5 N5 ht5
  dsimp only
  refine wpAny_execs_cons (st7 (k := k) (n1 := n1) (n2 := n2) (n3 := n3) (by rfl) hxs1 hxs2 lo hnm (own := _) (.tail _ (.head _)) (.tail _ (.tail _ (.tail _ (.tail _ (.head _))))) (.tail _ (.tail _ (.head _))) (.tail _ (.tail _ (.tail _ (.tail _ (.tail _ (.head _)))))) (.tail _ (.tail _ (.tail _ (.head _)))) (.head _) F6 N6 B X T9 hd60 hu60 ht6 (by exact h3) (by exact rfl) (by exact rfl) (by exact rfl) ?_)
  intro hp7 tk7 m7 t7 ht7 F7 hag7 hx7 N7
  have g1 : m7 ("seeds" : PySem.Str) = some (.ref SL) := AgOff.get hag7 rfl
  have g2 : m7 ("names" : PySem.Str) = some (.ref ND) := AgOff.get hag7 rfl
  have g3 : m7 ("growing" : PySem.Str) = some (.int ((n3 % 6 + 2 : Nat) : Int) tg) := AgOff.get hag7 rfl
  have g4 : m7 ("write" : PySem.Str) = some (.ref (escFn k)) := AgOff.get hag7 rfl
  clear F6 N6 ht6 hag7
  dsimp only
  -- the lexer
  generalize htxt : seedText k n3 n1 ++ seedText k n3 n2 = txt at hx7
  have hlt : txt.length ≤ 100000 := by
    rw [← htxt, List.length_append]
    have a1 := seedText_len2 k n3 n1
    have a2 := seedText_len2 k n3 n2
    omega
  obtain ⟨r1, r2, r3⟩ := law_read k n1 n2 n3
  rw [htxt] at r1 r2 r3
  have N8 : News h₀ L hp7 ((134, tabObj #[]) :: [(ND, o), (SL, listOf [.ref T1, .ref T2].toArray 0), (T2, seedObj n2 AL2 v1 v2 v3), (AL2, listOf (strValues xs2).toArray c2), (T1, seedObj n1 AL1 u1 u2 u3), (AL1, listOf (strValues xs1).toArray c1)]) := fun y hy => N7 y (by
    repeat (rcases List.mem_cons.mp hy with rfl | hy; · (repeat first | exact List.Mem.head _ | refine List.Mem.tail _ ?_))
    cases hy)
  clear N7
  have hdat : o.data ≠ (tabObj #[]).data := names_data hnm
  have hoff8 : OwnOff [(ND, o), (SL, listOf [.ref T1, .ref T2].toArray 0), (T2, seedObj n2 AL2 v1 v2 v3), (AL2, listOf (strValues xs2).toArray c2), (T1, seedObj n1 AL1 u1 u2 u3), (AL1, listOf (strValues xs1).toArray c1)] [134] := by
    refine news_off N8 ?_
    intro q hq
    simp only [List.mem_cons, List.not_mem_nil, or_false] at hq
    rcases hq with rfl | rfl | rfl | rfl | rfl | rfl
    · exact hdat
    · exact fun e => by cases e
    · exact fun e => by cases e
    · exact fun e => by cases e
    · exact fun e => by cases e
    · exact fun e => by cases e
  have b1 : (ND, o) ∈ [(ND, o), (SL, listOf [.ref T1, .ref T2].toArray 0), (T2, seedObj n2 AL2 v1 v2 v3), (AL2, listOf (strValues xs2).toArray c2), (T1, seedObj n1 AL1 u1 u2 u3), (AL1, listOf (strValues xs1).toArray c1)] := .head _
  have b2 : (SL, listOf [.ref T1, .ref T2].toArray 0) ∈ [(ND, o), (SL, listOf [.ref T1, .ref T2].toArray 0), (T2, seedObj n2 AL2 v1 v2 v3), (AL2, listOf (strValues xs2).toArray c2), (T1, seedObj n1 AL1 u1 u2 u3), (AL1, listOf (strValues xs1).toArray c1)] := .tail _ (.head _)
  have b3 : (T2, seedObj n2 AL2 v1 v2 v3) ∈ [(ND, o), (SL, listOf [.ref T1, .ref T2].toArray 0), (T2, seedObj n2 AL2 v1 v2 v3), (AL2, listOf (strValues xs2).toArray c2), (T1, seedObj n1 AL1 u1 u2 u3), (AL1, listOf (strValues xs1).toArray c1)] := .tail _ (.tail _ (.head _))
  have b4 : (AL2, listOf (strValues xs2).toArray c2) ∈ [(ND, o), (SL, listOf [.ref T1, .ref T2].toArray 0), (T2, seedObj n2 AL2 v1 v2 v3), (AL2, listOf (strValues xs2).toArray c2), (T1, seedObj n1 AL1 u1 u2 u3), (AL1, listOf (strValues xs1).toArray c1)] := .tail _ (.tail _ (.tail _ (.head _)))
  have b5 : (T1, seedObj n1 AL1 u1 u2 u3) ∈ [(ND, o), (SL, listOf [.ref T1, .ref T2].toArray 0), (T2, seedObj n2 AL2 v1 v2 v3), (AL2, listOf (strValues xs2).toArray c2), (T1, seedObj n1 AL1 u1 u2 u3), (AL1, listOf (strValues xs1).toArray c1)] := .tail _ (.tail _ (.tail _ (.tail _ (.head _))))
  have b6 : (AL1, listOf (strValues xs1).toArray c1) ∈ [(ND, o), (SL, listOf [.ref T1, .ref T2].toArray 0), (T2, seedObj n2 AL2 v1 v2 v3), (AL2, listOf (strValues xs2).toArray c2), (T1, seedObj n1 AL1 u1 u2 u3), (AL1, listOf (strValues xs1).toArray c1)] := .tail _ (.tail _ (.tail _ (.tail _ (.tail _ (.head _)))))
  generalize [(ND, o), (SL, listOf [.ref T1, .ref T2].toArray 0), (T2, seedObj n2 AL2 v1 v2 v3), (AL2, listOf (strValues xs2).toArray c2), (T1, seedObj n1 AL1 u1 u2 u3), (AL1, listOf (strValues xs1).toArray c1)] = own8 at N8 hoff8 b1 b2 b3 b4 b5 b6
  refine wpAny_execs_cons (st8 (by rfl) hlt hoff8 F7 N8 B X T9 hdp hu ht7 hx7 ?_)
  intro hp8 tk8 X9 u nq ny ys tb ht8 F8 ok hys hof N9
  clear F7 N8 ht7
  dsimp only
  have own9m : ∀ y ∈ own8, y ∈ (134, tabObj tb) :: own8 := fun y hy => .tail _ hy
  replace b1 := own9m _ b1
  replace b2 := own9m _ b2
  replace b3 := own9m _ b3
  replace b4 := own9m _ b4
  replace b5 := own9m _ b5
  replace b6 := own9m _ b6
  have b7 : (134, tabObj tb) ∈ (134, tabObj tb) :: own8 := .head _
  clear own9m
  generalize (134, tabObj tb) :: own8 = own9 at N9 hof b1 b2 b3 b4 b5 b6 b7
  refine wpAny_execs_cons (st9 (l := txt) (by rfl) X9 ok hys hlt hof F8 N9 B X T9 hdp hu ht8 (by exact rfl) ?_)
  intro hp9 tk9 m9 line9 u9 tq1 tq2 nq9 ny9 ys9 ht9 F9 hag9 hys9 hli9 N10
  rw [r1, r2] at N10
  have hL : m9 ("lexer" : PySem.Str) = some (.ref X9.x) := AgOff.get hag9 rfl
  have hT : m9 ("text" : PySem.Str) = some (.str (S txt) t7) := AgOff.get hag9 hx7
  have hS : m9 ("seeds" : PySem.Str) = some (.ref SL) := AgOff.get hag9 g1
  have hM : m9 ("names" : PySem.Str) = some (.ref ND) := AgOff.get hag9 g2
  have hG : m9 ("growing" : PySem.Str) = some (.int ((n3 % 6 + 2 : Nat) : Int) tg) := AgOff.get hag9 g3
  have hW : m9 ("write" : PySem.Str) = some (.ref (escFn k)) := AgOff.get hag9 g4
  clear F8 N9 ht8 hag9 g1 g2 g3 g4 hx7 m7
  dsimp only
  -- the main loop
  refine wpAny_execs_cons (st10 (by rfl) F9 N10 B X T9 hdp hu ht9 ?_)
  intro hp10 tk10 OL ht10 F10 hlO N11
  have hOa := led_adr (P := fun b => b < OL) hlO
  have hadO : ∀ b ∈ X9.adrs, OL ≠ b := fun b hb => Ne.symm (Nat.ne_of_lt (hOa.1 b hb))
  have hO9 : OwnOff own9 [OL] := fun y hy b hb => by rw [List.mem_singleton.mp hb]; exact Nat.ne_of_lt (hOa.2 y hy)
  have N12 : News h₀ L hp10 (lexLed X9 line9 u9 [(S (nw (sdAlong n1) (sdAlong n2) k (0, n1 % 3 + 1, n1 / 3 % 3 + 1, 0)), tq1), (S (nw (sdAlong n1) (sdAlong n2) k (1, n2 % 3 + 1, n2 / 3 % 3 + 1, 0)), tq2)] nq9 ys9 ny9 ++ (OL, listOf (strValues []).toArray 0) :: own9) := fun y hy => by
    rcases List.mem_append.mp hy with hy | hy
    · exact N11 _ (.tail _ (List.mem_append_left _ hy))
    · rcases List.mem_cons.mp hy with rfl | hy
      · exact N11 _ (.head _)
      · exact N11 _ (.tail _ (List.mem_append_right _ hy))
  clear F9 N10 N11 ht9
  dsimp only
  refine wpAny_execs_cons (st11 (k := k) (g := n3 % 6 + 2) (p1 := n1 % 3 + 1) (q1 := n1 / 3 % 3 + 1) (p2 := n2 % 3 + 1) (q2 := n2 / 3 % 3 + 1) (c0 := sdAlong n1) (c1 := sdAlong n2) (by rfl) hk5 ⟨by omega, by omega⟩ ⟨by omega, by omega⟩ ⟨by omega, by omega⟩ ⟨by omega, by omega⟩ ⟨by omega, by omega⟩ (sd_plain n1) (sd_plain n2) X9 ok line9 u9 tq1 tq2 nq9 ny9 ys9 OL 0 own9 hof hO9 hadO F10 N12 B X T9 hd60 hu60 ht10 tg (by exact hG) (by exact hL) (by exact rfl) (by exact hW) ?_)
  intro hp11 tk11 m11 outs nq11 c11 ht11 F11 hag11 houts N13
  have jL : m11 ("lexer" : PySem.Str) = some (.ref X9.x) := AgOff.get hag11 hL
  have jT : m11 ("text" : PySem.Str) = some (.str (S txt) t7) := AgOff.get hag11 hT
  have jS : m11 ("seeds" : PySem.Str) = some (.ref SL) := AgOff.get hag11 hS
  have jM : m11 ("names" : PySem.Str) = some (.ref ND) := AgOff.get hag11 hM
  have jG : m11 ("growing" : PySem.Str) = some (.int ((n3 % 6 + 2 : Nat) : Int) tg) := AgOff.get hag11 hG
  have jO : m11 ("out" : PySem.Str) = some (.ref OL) := AgOff.get hag11 rfl
  clear F10 N12 ht10 hag11 hL hT hS hM hG hW m9
  dsimp only
  -- what is due
  refine wpAny_execs_cons (st12 (by rfl) F11 N13 B X T9 hdp hu ht11 ?_)
  intro hp12 tk12 W vys cw ht12 F12 hvys N14
  clear F11 N13 ht11
  dsimp only
  refine wpAny_execs_cons (st13 (by rfl) F12 N14 B X T9 hdp hu ht12 ?_)
  intro hp13 tk13 DL ht13 F13 hlD N15
  clear F12 N14 ht12
  dsimp only
  have up : ∀ {y}, y ∈ own9 → y ∈ (W, listOf vys.toArray cw) :: (lexLed X9 line9 u9 [] nq11 ys9 ny9 ++ (OL, listOf (strValues outs).toArray c11) :: own9) := fun hy => .tail _ (List.mem_append_right _ (.tail _ hy))
  have hOD : OwnOff ((W, listOf vys.toArray cw) :: (lexLed X9 line9 u9 [] nq11 ys9 ny9 ++ (OL, listOf (strValues outs).toArray c11) :: own9)) [DL] := fun y hy b hb => by rw [List.mem_singleton.mp hb]; exact Nat.ne_of_lt (hlD y hy)
  have hDa := led_adr (P := fun b => b < DL) (fun y hy => hlD y (.tail _ hy))
  refine wpAny_execs_cons (st14 (k := k) (n1 := n1) (n2 := n2) (by rfl) hxs1 hxs2 hvys lo hnm (up b2) (up b5) (up b3) (up b6) (up b4) (up b1) (.head _) hOD F13 N15 B X T9 hd60 hu60 ht13 (by exact jS) (by exact jM) (by exact rfl) (by exact rfl) ?_)
  intro hp14 tk14 m14 dues c14 ht14 F14 hag14 hdues N16
  have kL : m14 ("lexer" : PySem.Str) = some (.ref X9.x) := AgOff.get hag14 jL
  have kT : m14 ("text" : PySem.Str) = some (.str (S txt) t7) := AgOff.get hag14 jT
  have kG : m14 ("growing" : PySem.Str) = some (.int ((n3 % 6 + 2 : Nat) : Int) tg) := AgOff.get hag14 jG
  have kO : m14 ("out" : PySem.Str) = some (.ref OL) := AgOff.get hag14 jO
  have kD : m14 ("due" : PySem.Str) = some (.ref DL) := AgOff.get hag14 rfl
  clear F13 N15 ht13 hag14 jL jT jS jM jG jO m11
  dsimp only
  rw [due_words] at hdues
  have hdl : dues.length ≤ 1000 := by
    have := congrArg List.length hdues
    rw [← due_words, List.length_map] at this
    have h64 := sizes_len k n1 n2 4
    rw [this]
    exact Nat.le_trans h64 (by decide)
  have N17 : News h₀ L hp14 (lexLed X9 line9 u9 [] nq11 ys9 ny9 ++ (OL, listOf (strValues outs).toArray c11) :: (DL, listOf (strValues dues).toArray c14) :: [(134, tabObj tb)]) := fun y hy => by
    rcases List.mem_append.mp hy with hy | hy
    · exact N16 _ (.tail _ (.tail _ (List.mem_append_left _ hy)))
    · rcases List.mem_cons.mp hy with rfl | hy
      · exact N16 _ (.tail _ (.tail _ (List.mem_append_right _ (.head _))))
      · rcases List.mem_cons.mp hy with rfl | hy
        · exact N16 _ (.head _)
        · rw [List.mem_singleton.mp hy]
          exact N16 _ (.tail _ (up b7))
  have hof17 : OwnOff ((OL, listOf (strValues outs).toArray c11) :: (DL, listOf (strValues dues).toArray c14) :: [(134, tabObj tb)]) X9.adrs := by
    refine off_cons hadO (off_cons (fun b hb => Ne.symm (Nat.ne_of_lt (hDa.1 b hb))) fun y hy b hb => ?_)
    rw [List.mem_singleton.mp hy]
    exact hof _ b7 b hb
  clear N16
  have hr9 : (lexTok (lexTok txt).2).2.length ≤ 100000 := lexTok_le2 (lexTok_le2 hlt)
  refine wpAny_execs_cons (st15 (g := n3 % 6 + 2) (r := (lexTok (lexTok txt).2).2) (txt := txt) (by rfl) X9 ok hys9 hr9 r3 hli9 hdl ?hdu ?hok hof17 F14 N17 B X T9 hdp hu ht14 (by exact kG) (by exact kL) (by exact kO) (by exact kD) (by exact kT) ?_)
  case hdu => rw [houts, hdues, List.map_take]
  case hok => rw [houts]; exact due_ok k n1 n2 hk5 _
  intro hp15 tk15 m15 ht15 F15 N18
  exact hret hp15 tk15 m15 tb ht15 F15 N18
end
end Mine
end SLr1
end WalkF
end Walk
section SLa1
local macro_rules | `(tactic| walk_at "z") => `(tactic| skip)
namespace Mine
theorem fresh31 : True := by
  w_top off
  trivial
end Mine
open PySem PySem.W PyProof.Rows PySem.Calls
set_option Elab.async false
set_option maxRecDepth 100000
set_option maxHeartbeats 8000000
set_option pp.maxSteps 400
set_option autoImplicit false
namespace Mine
local macro_rules | `(tactic| walk_at "call type:enumerate") => `(tactic| (k_here; (with_reducible refine' Mine.enumN ?F ?N ?m ?_); (case F => k_asm); (case N => k_asm); k_dflt (case m => k_mem); k_whole; intro e9 it9 oe9 oi9 h9 F9 N9 st9 hei9 off9))
local macro_rules | `(tactic| walk_at "subscriptTail Name Slice ref ref") => `(tactic| (k_here; (with_reducible refine' Mine.pick3 ?F ?N ?l ?i (by k_dflt constructor) (by k_dflt constructor) (by k_dflt constructor) (by decide) ?z ?_ (by with_unfolding_all rfl) (by intro _; with_unfolding_all rfl)); (case F => k_asm); (case N => k_asm); k_dflt ((case l => assumption); (case i => assumption); (case z => omega)); k_whole; intro D' h' F' N' l1 hI9))
local macro_rules | `(tactic| walk_at "eval Name") => `(tactic| (k_here; k_dflt (refine' nameX_F ?N ?c ?m ?d ?_ ?a ?b; (case a => rfl); (case b => rfl); (case N => k_asm); (case c => exact rfl); (case m => k_mem); (case d => assumption); k_whole)))
def fnOf3 {vs : List Value} {ns : List Int} (_ : IntsAre vs ns) : Int → Int → Int := fun i b => (b + sumFrom vs 3 i).fmod 1000000000
theorem fn_nat {vs : List Value} {ns : List Int} (h : IntsAre vs ns) (i b : Int) : ∃ n : Nat, fnOf3 h i b = (n : Int) ∧ n < 1000000000 := by
  have h1 := Int.fmod_nonneg_of_pos (b + sumFrom vs 3 i) (show (0 : Int) < 1000000000 by decide)
  have h2 := Int.fmod_lt_of_pos (b + sumFrom vs 3 i) (show (0 : Int) < 1000000000 by decide)
  exact ⟨((b + sumFrom vs 3 i).fmod 1000000000).toNat, (Int.toNat_of_nonneg h1).symm, by omega⟩
theorem ai3_inv {ys : List Value} {a b c : Int} (h : AreInts ys [a, b, c]) : ∃ t u v, ys = [.int a t, .int b u, .int c v] := by
  obtain ⟨ps, rfl, e⟩ := h
  rcases ps with _ | ⟨⟨a0, t0⟩, _ | ⟨⟨a1, t1⟩, _ | ⟨⟨a2, t2⟩, _ | ⟨p, ps⟩⟩⟩⟩ <;> simp at e
  obtain ⟨rfl, rfl, rfl⟩ := e
  exact ⟨t0, t1, t2, rfl⟩
theorem law1 : PySem.Challenge.rw_rw0051_01.Holds := hd (by
  k_go0
  rename IntsAre _ _ => hI0
  rename (¬ _ < _) => hlen0
  refine wpAny_execs_cons ?_
  refine Assign_Tuple ?_ (by rfl) (by rfl)
  obtain ⟨f, hf⟩ : ∃ f : Int → Int → Int, f = fnOf3 hI0 := ⟨_, rfl⟩
  (with_reducible refine' comp_en f ?F ?hh ?xy ?cl ?ce ?ki ?na ?hx ?hy ?s0 ?h)
  case F => k_asm
  case hh => rfl
  case xy => decide
  case cl => with_unfolding_all rfl
  case ce => decide
  case ki => rfl
  case na => decide
  case hx => rfl
  case hy => rfl
  case s0 => exact fun _ => rfl
  case h =>
    k_steps
    rename_i e9 it9 oe9 oi9 h9 F9 N9 st9 hei9 off9
    refine ⟨e9, it9, _, _, [7347, 681058, 8], 0, oe9, oi9, _, rfl, F9, N9, st9, hei9, (off9 _ (.head _)).1, (off9 _ (.head _)).2, off9, .head _, ai3, Nat.le_of_ble_eq_true rfl, ?_, fun D h tk ys hys F N hoff => ?_⟩
    · rintro i b sb C D m₂ ys oe oi s' E' ⟨t1, hx⟩ ⟨t2, hy⟩ ⟨h, tk, oC, rfl, F, N, hC, hCD, hoff⟩
      k_steps
      subst hf
      exact ENd.intro (by rfl) (by k_asm) (by k_asm) (fun p9 hp9 => .tail _ hp9) hC hCD hoff
    · have hys3 : AreInts ys [f 0 7347, f 1 681058, f 2 8] := hys
      clear hys
      subst hf
      obtain ⟨n1, e1, hn1⟩ := fn_nat hI0 0 7347
      obtain ⟨n2, e2, hn2⟩ := fn_nat hI0 1 681058
      obtain ⟨n3, e3, hn3⟩ := fn_nat hI0 2 8
      rw [e1, e2, e3] at hys3
      obtain ⟨t1, t2, t3, rfl⟩ := ai3_inv hys3
      clear hys3 e1 e2 e3
      dsimp only
      (refine (?_ : wpAny _ (cT _ _ _ _ _) _ _ _ _))
      iterate 11 walk1
      refine' law_rest (n1 := n1) (n2 := n2) (n3 := n3) (t1 := t1) (t2 := t2) (t3 := t3) (by rfl) hn1 hn2 ?F ?N ?B ?X ?T ?hdp ?hu ?ht ?h1 ?h2 ?h3 ?ret
      case F => k_asm
      case N => exact fun y hy => (show News _ _ _ [_, _, _, (134, tabObj #[])] by k_asm) y (.tail _ (.tail _ (.tail _ hy)))
      case B => k_asm
      case X => k_asm
      case T => k_asm
      case hdp => decide
      case hu => (have hcL9 := cLine_is; have hc4 : callerA.units = 4 := rfl; omega)
      case ht => first | assumption | (dsimp only; omega)
      case h1 => exact rfl
      case h2 => exact rfl
      case h3 => exact rfl
      case ret =>
        intro h' tk' m' tb ht' F' N'
        k_steps)
end Mine
end SLa1
theorem PySem.Challenge.cw_rw0051_01_holds : PySem.Challenge.rw_rw0051_01.Holds := by
  exact Mine.law1
