import PyProof.Rows.All
import Wide.All
import OpenK.AllK
import Wide.FinOn
import Lean
import PySem.Challenge.RW_rw0051_02
set_option Elab.async false
set_option compiler.extract_closed false
set_option linter.all false
section SPre
open PySem PySem.W PyProof.Rows PySem.Calls
set_option Elab.async false
set_option maxRecDepth 100000
namespace Mine

theorem gentoks1 {α : Type} {M : Model} {A : Around} {t : Sem α} {Q : α → Shared → Prop} {E : Value → Shared → Prop} {hp : Heap} {gs : Array GenState} {dr : Drawn} {Y : Nat} {os : OsState}
    (h : ∀ tk, 1 ≤ tk → wpAny M A t Q E ⟨hp, gs, dr, tk, os⟩) : wpAny M A t Q E ⟨hp, gs, dr, Y + 1, os⟩ := h _ (Nat.le_add_left 1 Y)

theorem gentoks2 {α : Type} {M : Model} {A : Around} {t : Sem α} {Q : α → Shared → Prop} {E : Value → Shared → Prop} {hp : Heap} {gs : Array GenState} {dr : Drawn} {X : Nat} {os : OsState}
    (hX : 1 ≤ X) (h : ∀ tk, 1 ≤ tk → wpAny M A t Q E ⟨hp, gs, dr, tk, os⟩) : wpAny M A t Q E ⟨hp, gs, dr, X, os⟩ := h _ hX

theorem roomA {x a D l : Nat} (h : a + D < l) (e : x ≤ a + D) : x < l := Nat.lt_of_le_of_lt e h

/-- a text by its signs' numbers -/
abbrev S (l : List Nat) : PySem.Str := ⟨l.toArray⟩
theorem S_len (l : List Nat) : (S l).length = l.length := by simp [PySem.Str.length]
theorem S_eq (x : PySem.Str) : x = S x.cps.toList := by cases x; simp [S]
theorem S_append (a b : List Nat) : S a ++ S b = S (a ++ b) := by
  show PySem.Str.append (S a) (S b) = _
  simp [S, PySem.Str.append]
theorem S_inj {a b : List Nat} (h : S a = S b) : a = b := by
  have := congrArg (fun x : PySem.Str => x.cps.toList) h
  simpa [S] using this

def rep1 (c : Nat) (r l : List Nat) : List Nat := l.flatMap fun a => if a = c then r else [a]
theorem rep1_free {c : Nat} {r l : List Nat} (h : c ∉ l) : rep1 c r l = l := by
  induction l with
  | nil => rfl
  | cons a l ih =>
    have h1 : a ≠ c := fun e => h (e ▸ .head _)
    have h2 : c ∉ l := fun e => h (.tail _ e)
    show (if a = c then r else [a]) ++ rep1 c r l = a :: l
    rw [if_neg h1, ih h2]; rfl
theorem rep1_append (c : Nat) (r a b : List Nat) : rep1 c r (a ++ b) = rep1 c r a ++ rep1 c r b := by simp [rep1]
theorem rep1_join (c : Nat) (r : List Nat) : ∀ (ps : List PySem.Str), (∀ p ∈ ps, c ∉ p.cps.toList) → S (rep1 c r (PySem.Str.join (S [c]) ps).cps.toList) = PySem.Str.join (S r) ps
  | [], _ => by simp [PySem.Str.join, rep1, PySem.Str.empty, S]
  | [p], h => by
    show S (rep1 c r p.cps.toList) = p
    rw [rep1_free (h p (.head _))]
  | p :: q :: ps, h => by
    have ih := rep1_join c r (q :: ps) fun a ha => h a (.tail _ ha)
    show S (rep1 c r (p ++ S [c] ++ PySem.Str.join (S [c]) (q :: ps)).cps.toList) = p ++ S r ++ PySem.Str.join (S r) (q :: ps)
    rw [← ih]
    have e1 : (p ++ S [c] ++ PySem.Str.join (S [c]) (q :: ps)).cps.toList = p.cps.toList ++ ([c] ++ (PySem.Str.join (S [c]) (q :: ps)).cps.toList) := by
      rw [PySem.Str.cps_append, PySem.Str.cps_append]; simp
    have e2 : rep1 c r [c] = r := by simp [rep1]
    rw [e1, rep1_append, rep1_append, rep1_free (h p (.head _)), e2]
    conv => rhs; rw [S_eq p]
    rw [S_append, S_append, List.append_assoc]
theorem replace_S (c : Nat) (r l : List Nat) : Txt.replace (S l) (S [c]) (S r) = S (rep1 c r l) := by
  rw [StrLaws.replace_one]
  have h := StrLaws.join_split (S l) (S [c]) 
  have e : PySem.Str.join (S [c]) (Txt.split (S l) (S [c])) = S l := by
    first | exact h | exact h (by simp [S]) | exact h (by decide)
  rw [← rep1_join c r (Txt.split (S l) (S [c])) (fun p hp => by
    have := StrLaws.split_free (S l) c p hp
    simpa using this), e]
theorem in_S (c : Nat) (l : List Nat) : (!(Builtin.Str.occurrences (S l) (S [c]) 0 (S l).length 1).isEmpty) = decide (c ∈ l) := by
  have := StrLaws.found_one (S l) c
  simpa [S] using this
def repN (rs : List (Nat × List Nat)) (l : List Nat) : List Nat := rs.foldl (fun l cr => rep1 cr.1 cr.2 l) l
theorem repN_snoc (rs : List (Nat × List Nat)) (c : Nat) (r l : List Nat) : rep1 c r (repN rs l) = repN (rs ++ [(c, r)]) l := by simp [repN]
theorem repN_app (rs : List (Nat × List Nat)) : ∀ a b, repN rs (a ++ b) = repN rs a ++ repN rs b := by
  induction rs with
  | nil => intro a b; rfl
  | cons p rs ih => intro a b; show repN rs (rep1 p.1 p.2 (a ++ b)) = _; rw [rep1_append, ih]; rfl
theorem repN_nil (rs : List (Nat × List Nat)) : repN rs [] = [] := by
  induction rs with
  | nil => rfl
  | cons p rs ih => exact ih
theorem repN_flat (rs : List (Nat × List Nat)) : ∀ l, repN rs l = l.flatMap fun a => repN rs [a]
  | [] => repN_nil rs
  | a :: l => by
    have := repN_app rs [a] l
    rw [List.singleton_append] at this
    rw [this, repN_flat rs l, List.flatMap_cons]
theorem repN_other {rs : List (Nat × List Nat)} {a : Nat} (h : a ∉ rs.map (·.1)) : repN rs [a] = [a] := by
  induction rs with
  | nil => rfl
  | cons p rs ih =>
    have h1 : a ≠ p.1 := fun e => h (by simp [e])
    have h2 : a ∉ rs.map (·.1) := fun e => h (by simp at e ⊢; exact .inr e)
    show repN rs (rep1 p.1 p.2 [a]) = [a]
    rw [rep1_free (by simp; exact fun e => h1 e.symm), ih h2]
theorem repN_one_len {rs : List (Nat × List Nat)} (k : Nat) (h : ((rs.map (·.1)).all fun c => decide ((repN rs [c]).length ≤ k)) = true) (h1 : 1 ≤ k) (a : Nat) : (repN rs [a]).length ≤ k := by
  by_cases ha : a ∈ rs.map (·.1)
  · exact of_decide_eq_true (List.all_eq_true.mp h a ha)
  · rw [repN_other ha]; exact h1
theorem flat_len {f : Nat → List Nat} {k : Nat} (h : ∀ a, (f a).length ≤ k) : ∀ l : List Nat, (l.flatMap f).length ≤ k * l.length
  | [] => by simp
  | a :: l => by
    have := flat_len h l
    have := h a
    rw [List.flatMap_cons, List.length_append, List.length_cons, Nat.mul_add]; omega
theorem repN_len {rs : List (Nat × List Nat)} (h : ((rs.map (·.1)).all fun c => decide ((repN rs [c]).length ≤ 6)) = true) (l : List Nat) : (repN rs l).length ≤ 6 * l.length := by
  rw [repN_flat]; exact flat_len (repN_one_len 6 h (by decide)) l
theorem of_amp : PySem.Str.ofString "&" = S [38] := by decide +kernel
theorem of_lt : PySem.Str.ofString "<" = S [60] := by decide +kernel
theorem of_gt : PySem.Str.ofString ">" = S [62] := by decide +kernel
theorem of_quot : PySem.Str.ofString "\"" = S [34] := by decide +kernel
theorem of_cr : PySem.Str.ofString "\r" = S [13] := by decide +kernel
theorem of_lf : PySem.Str.ofString "\n" = S [10] := by decide +kernel
theorem of_tab : PySem.Str.ofString "\t" = S [9] := by decide +kernel
theorem of_e0 : PySem.Str.ofString "&amp;" = S [38,97,109,112,59] := by decide +kernel
theorem of_e1 : PySem.Str.ofString "&lt;" = S [38,108,116,59] := by decide +kernel
theorem of_e2 : PySem.Str.ofString "&gt;" = S [38,103,116,59] := by decide +kernel
theorem of_e3 : PySem.Str.ofString "&quot;" = S [38,113,117,111,116,59] := by decide +kernel
theorem of_e4 : PySem.Str.ofString "&#13;" = S [38,35,49,51,59] := by decide +kernel
theorem of_e5 : PySem.Str.ofString "&#10;" = S [38,35,49,48,59] := by decide +kernel
theorem of_e6 : PySem.Str.ofString "&#09;" = S [38,35,48,57,59] := by decide +kernel
theorem of_e7 : PySem.Str.ofString "&#xD;" = S [38,35,120,68,59] := by decide +kernel
theorem of_e8 : PySem.Str.ofString "&#x9;" = S [38,35,120,57,59] := by decide +kernel
theorem of_e9 : PySem.Str.ofString "&#xA;" = S [38,35,120,65,59] := by decide +kernel
section
variable {prog : Program} {w : World} {A : Around} {E : Value → Shared → Prop} {s : Shared} {name : PySem.Str} {scope : Scope} {L a : Addr} {cd : Value} {h₀ : Heap} {m : PySem.Str → Option Value} {news : List (Addr × Obj)}
theorem Constant_str_ {x : PySem.Str} {k : Nat} {pos : Pos} {env : Env} {Q : Value → Shared → Prop} (h : Q (.str x s.toks) { s with toks := s.toks + 1 }) :
    wpAny (model prog w) A (eval (.Constant (.str x) k pos) env) Q E s := fun _ _ _ => h
theorem esc_if {cS rS : PySem.Str} {c : Nat} {r l : List Nat} {t : Tok} {k1 k2 k3 : Nat} {p1 p2 p3 p4 p5 p6 p7 p8 p9 p10 p11 : Pos} {Q : Flow → Shared → Prop}
    (F : Fr h₀ L s.heap m) (N : News h₀ L s.heap news) (hm : m "text" = some (.str (S l) t)) (ht : 1 ≤ s.toks) (hl : l.length ≤ 1048576) (hr : r.length ≤ 14) (hcr : (cS == rS) = false) (ec : cS = S [c]) (er : rS = S r)
    (h : ∀ h' tk' t', Fr h₀ L h' (fun y => if y = ("text" : PySem.Str) then some (.str (S (rep1 c r l)) t') else m y) → News h₀ L h' news → 1 ≤ tk' → Q .next { s with heap := h', toks := tk' })
    {pl : Sem Bool} (hcall : ∀ (Q' : Value → Shared → Prop) (s' : Shared), wpAny (model prog w) A (eval (.Name "text" p5) (envOf name scope L a cd)) (fun ov s₁ => wpAny (model prog w) A (getMethod ov "replace" pl) (fun fx s₂ => wpAny (model prog w) A (callWith p9 fx.1 fx.2 (backTo p9 (starEach [.Constant (.str cS) k2 p7, .Constant (.str rS) k3 p8] (envOf name scope L a cd))) []) Q' E s₂) E s₁) E s' →
      wpAny (model prog w) A (eval (.Call (.Attribute (.Name "text" p5) "replace" p6) [.Constant (.str cS) k2 p7, .Constant (.str rS) k3 p8] [] p9) (envOf name scope L a cd)) Q' E s')
    (hsw : swapsWith (.Call (.Attribute (.Name "text" p5) "replace" p6) [.Constant (.str cS) k2 p7, .Constant (.str rS) k3 p8] [] p9) (some (.Name "text" p4)) p10.line (envOf name scope L a cd) = pure false)
    (hk : scope.kind = .function) (hv : (envOf name scope L a cd).kindOf "text" = some .local) (hd : (("text" : PySem.Str) == ("__debug__" : PySem.Str)) = false) :
    wpAny (model prog w) A (exec (.If (.Compare (.Constant (.str cS) k1 p1) [.In] [.Name "text" p2] p3) [.Assign [.Name "text" p4] (.Call (.Attribute (.Name "text" p5) "replace" p6) [.Constant (.str cS) k2 p7, .Constant (.str rS) k3 p8] [] p9) p10] [] p11) (envOf name scope L a cd)) Q E s := by
  have em : (fun y => if y = ("text" : PySem.Str) then some (Value.str (S l) t) else m y) = m := by
    funext y; by_cases e : y = "text"
    · subst e; simp [hm]
    · simp [e]
  refine wpAny_If (wpAny_isTrue_Compare1 ?_)
  refine Constant_str_ ?_
  refine ld F hm ?_ hk hv hd
  refine in_str ?_
  refine wpAny_truthy_bool ?_
  subst ec er
  rw [in_S]
  by_cases hc : c ∈ l
  · simp only [hc, decide_true, if_true]
    refine wpAny_execs_cons (wpAny_Assign_Name ?_ hsw)
    refine hcall _ _ ?_
    refine ld F hm ?_ hk hv hd
    refine GM.replace ?_
    refine callWith_method1 ?_
    refine spliced_more (Constant_str_ ?_)
    refine spliced_more (Constant_str_ ?_)
    refine spliced_none ?_
    refine SC.replaceW (by show @Ne Nat _ _; dsimp only; omega) (by show @Ne Nat _ _; dsimp only; omega) (by show @Ne Nat _ _; dsimp only; omega) hcr (by rw [S_len]; exact hl) (by rw [S_len]; exact hr) ?_
    intro t' tk
    rw [replace_S]
    refine wpAny_storeName_local hv F.ns (fun h' hn hs => ?_) (by show (scope.kind == .class || (scope.kind == .module && L != mainGlobals)) = false; rw [hk]; rfl)
    refine wpAny_execs_nil ?_
    exact h h' (tk + 1) t' (F.set hn hs) (N.set hs) (by omega)
  · simp only [hc, decide_false, Bool.false_eq_true, if_false]
    refine wpAny_execs_nil ?_
    have := h s.heap (s.toks + 1) t (by rw [rep1_free hc, em]; exact F) N (by omega)
    exact this

theorem esc_ifN {cS rS : PySem.Str} {c : Nat} {r l : List Nat} {rs : List (Nat × List Nat)} {t : Tok} {k1 k2 k3 : Nat} {p1 p2 p3 p4 p5 p6 p7 p8 p9 p10 p11 : Pos} {Q : Flow → Shared → Prop}
    (F : Fr h₀ L s.heap m) (N : News h₀ L s.heap news) (hm : m "text" = some (.str (S (repN rs l)) t)) (ht : 1 ≤ s.toks) (hl : l.length ≤ 100000) (hrs : ((rs.map (·.1)).all fun c => decide ((repN rs [c]).length ≤ 6)) = true) (hr : r.length ≤ 14) (hcr : (cS == rS) = false) (ec : cS = S [c]) (er : rS = S r)
    (h : ∀ h' tk' t', Fr h₀ L h' (fun y => if y = ("text" : PySem.Str) then some (.str (S (repN (rs ++ [(c, r)]) l)) t') else m y) → News h₀ L h' news → 1 ≤ tk' → Q .next { s with heap := h', toks := tk' })
    {pl : Sem Bool} (hcall : ∀ (Q' : Value → Shared → Prop) (s' : Shared), wpAny (model prog w) A (eval (.Name "text" p5) (envOf name scope L a cd)) (fun ov s₁ => wpAny (model prog w) A (getMethod ov "replace" pl) (fun fx s₂ => wpAny (model prog w) A (callWith p9 fx.1 fx.2 (backTo p9 (starEach [.Constant (.str cS) k2 p7, .Constant (.str rS) k3 p8] (envOf name scope L a cd))) []) Q' E s₂) E s₁) E s' →
      wpAny (model prog w) A (eval (.Call (.Attribute (.Name "text" p5) "replace" p6) [.Constant (.str cS) k2 p7, .Constant (.str rS) k3 p8] [] p9) (envOf name scope L a cd)) Q' E s')
    (hsw : swapsWith (.Call (.Attribute (.Name "text" p5) "replace" p6) [.Constant (.str cS) k2 p7, .Constant (.str rS) k3 p8] [] p9) (some (.Name "text" p4)) p10.line (envOf name scope L a cd) = pure false)
    (hk : scope.kind = .function) (hv : (envOf name scope L a cd).kindOf "text" = some .local) (hd : (("text" : PySem.Str) == ("__debug__" : PySem.Str)) = false) :
    wpAny (model prog w) A (exec (.If (.Compare (.Constant (.str cS) k1 p1) [.In] [.Name "text" p2] p3) [.Assign [.Name "text" p4] (.Call (.Attribute (.Name "text" p5) "replace" p6) [.Constant (.str cS) k2 p7, .Constant (.str rS) k3 p8] [] p9) p10] [] p11) (envOf name scope L a cd)) Q E s :=
  esc_if F N hm ht (Nat.le_trans (repN_len hrs l) (by omega)) hr hcr ec er (fun h' tk' t' F' N' x => h h' tk' t' (by rw [← repN_snoc]; exact F') N' x) hcall hsw hk hv hd
end
end Mine
end SPre
section SBase2
open PySem PySem.W PyProof.Rows
set_option Elab.async false
set_option maxRecDepth 100000
set_option maxHeartbeats 8000000
namespace Mine
open_top hd for PySem.Challenge.rw_rw0051_02
end Mine
end SBase2
section SCt2
open PySem PySem.W PyProof.Rows PySem.Calls
set_option Elab.async false
set_option maxRecDepth 100000
set_option maxHeartbeats 8000000
set_option pp.maxSteps 400
set_option autoImplicit false
namespace Mine
/-- a goal at which the walk stops -/
def Hold (p : Prop) : Prop := p
theorem Hold.out {p : Prop} (h : Hold p) : p := h
abbrev cT (dp un : Nat) (gd : Option (List Code)) (env : Env) (outer : List Env) : Around := { handled := none, depth := dp, frames := some (env :: outer), guards := gd, units := un }
/-- what a call of a def of the text does, at any caller -/
abbrev Ct (w : World) (D U : Nat) (f : Addr) (args : List Value) (news : List (Addr × Obj)) (pre : Prop) (Post : Value → List (Addr × Obj) → Prop) : Prop :=
  ∀ (p : Program) (loose : List Str) (mean : ExcName → Option Value) (mg mb : Str → Option Value) (dp un : Nat) (gd : Option (List Code)) (env : Env) (outer : List Env) (A₀ : Around) (base h₀ : Heap) (L : Addr) (m : Str → Option Value) (s : Shared) (Q E : Value → Shared → Prop),
    Below A₀ base outer h₀ → Fr h₀ L s.heap m → (hd.heap_39 w.params).In h₀ → News h₀ L s.heap news → Top p loose mean mg mb h₀ → env.frame = some L → env.scope.kind = .function → dp + D < recursionLimit → un + U < cLine → 1 ≤ s.toks → pre →
    (∀ r h' tk' news', Fr h₀ L h' m → News h₀ L h' news' → 1 ≤ tk' → Post r news' → Q r { s with heap := h', toks := tk' }) →
    codeAny (model PySem.Challenge.rw_rw0051_02.row.prog w) (cT dp un gd env outer) (.call (.ref f) ⟨args, []⟩) (fun r s' => match r with | .ok (.ret v) => Q v s' | .ok _ => False | .error e => E e s') s
end Mine
namespace Mine
section
variable {w : World} {D U : Nat} {f : Addr} {args : List Value} {news : List (Addr × Obj)} {pre : Prop} {Post : Value → List (Addr × Obj) → Prop}
theorem ct_use {p : Program} {loose : List Str} {mean : ExcName → Option Value} {mg mb : Str → Option Value} {dp un : Nat} {gd : Option (List Code)} {env : Env} {outer : List Env} {A₀ : Around} {base h₀ : Heap} {L : Addr} {m : Str → Option Value} {s : Shared} {Q E : Value → Shared → Prop}
    (C : Ct w D U f args news pre Post) (B : Below A₀ base outer h₀) (F : Fr h₀ L s.heap m) (X : (hd.heap_39 w.params).In h₀) (N : News h₀ L s.heap news) (T : Top p loose mean mg mb h₀) (hf : env.frame = some L) (hk : env.scope.kind = .function) (hd : dp + D < recursionLimit) (hu : un + U < cLine) (ht : 1 ≤ s.toks) (hp : pre)
    (ret : ∀ r h' tk' news', Fr h₀ L h' m → News h₀ L h' news' → 1 ≤ tk' → Post r news' → Q r { s with heap := h', toks := tk' }) :
    wpAny (model PySem.Challenge.rw_rw0051_02.row.prog w) (cT dp un gd env outer) (call (.ref f) args) Q E s :=
  wpAny_call (C _ _ _ _ _ _ _ _ _ _ _ _ _ _ _ _ _ _ B F X N T hf hk hd hu ht hp ret)
/-- ct_use, with its plain premises shown at the place -/
theorem ct_useA {p : Program} {loose : List Str} {mean : ExcName → Option Value} {mg mb : Str → Option Value} {dp un : Nat} {gd : Option (List Code)} {env : Env} {outer : List Env} {A₀ : Around} {base h₀ : Heap} {L : Addr} {m : Str → Option Value} {s : Shared} {Q E : Value → Shared → Prop}
    (C : Ct w D U f args news pre Post) (hp : pre)
    (ret : ∀ r h' tk' news', Fr h₀ L h' m → News h₀ L h' news' → 1 ≤ tk' → Post r news' → Q r { s with heap := h', toks := tk' })
    (B : Below A₀ base outer h₀ := by k_asm) (F : Fr h₀ L s.heap m := by k_asm) (X : (hd.heap_39 w.params).In h₀ := by k_asm) (N : News h₀ L s.heap news := by first | k_asm | exact PyProof.Rows.News.tail' (by k_asm)) (T : Top p loose mean mg mb h₀ := by k_asm) (hf : env.frame = some L := by exact rfl) (hk : env.scope.kind = .function := by exact rfl) (hd : dp + D < recursionLimit := by ktr_room) (hu : un + U < cLine := by ktr_units) (ht : 1 ≤ s.toks := by first | assumption | exact Nat.le_add_left 1 _ | (dsimp only; omega)) :
    wpAny (model PySem.Challenge.rw_rw0051_02.row.prog w) (cT dp un gd env outer) (call (.ref f) args) Q E s :=
  ct_use C B F X N T hf hk hd hu ht hp ret
/-- the ledger laid in another order -/
theorem Ct.perm {news2 : List (Addr × Obj)} {Post2 : Value → List (Addr × Obj) → Prop} (C : Ct w D U f args news pre Post) (h1 : ∀ p ∈ news, p ∈ news2) (h2 : ∀ r n, Post r n → ∃ n2, (∀ p ∈ n2, p ∈ n) ∧ Post2 r n2) : Ct w D U f args news2 pre Post2 :=
  fun p loose mean mg mb dp un gd env outer A₀ base h₀ L m s Q E B F X N T hf hk hd hu ht hp ret =>
    C p loose mean mg mb dp un gd env outer A₀ base h₀ L m s Q E B F X (cb_drop N h1) T hf hk hd hu ht hp fun r h' tk' news' F' N' ht' hP => by
      obtain ⟨n2, hs, hP2⟩ := h2 r news' hP
      exact ret r h' tk' n2 F' (cb_drop N' hs) ht' hP2
end
end Mine
end SCt2
section SSrePure
open PySem PySem.W PyProof.Rows PySem.Calls
set_option Elab.async false
set_option maxRecDepth 100000
namespace Mine
open PySem.Sre

def codeA : Array Nat := #[14, 4, 0, 1, 1, 6, 1, 16, 46, 1]
def codeB : Array Nat := #[14, 9, 4, 1, 2, 16, 10, 16, 13, 0, 7, 7, 16, 13, 16, 10, 15, 18, 5, 16, 10, 15, 13, 11, 16, 13, 5, 5, 0, 16, 10, 1, 15, 2, 0, 1]

theorem runFor_stop : ∀ (n : Nat) (m : M), m.outcome.isSome = true → M.runFor n m = m
  | 0, _, _ => rfl
  | n + 1, m, h => by rw [M.runFor]; simp [h]
theorem runFor_add : ∀ (a b : Nat) (m : M), M.runFor (a + b) m = M.runFor b (M.runFor a m)
  | 0, b, m => by rw [Nat.zero_add]; rfl
  | a + 1, b, m => by
    rw [show a + 1 + b = (a + b) + 1 by omega]
    by_cases h : m.outcome.isSome = true
    · rw [runFor_stop _ m h, runFor_stop _ m h, runFor_stop _ m h]
    · rw [M.runFor, M.runFor, if_neg h, if_neg h, runFor_add a b]
theorem runFor_ge {a b : Nat} {m : M} (h : (M.runFor a m).outcome.isSome = true) (hab : a ≤ b) : M.runFor b m = M.runFor a m := by
  obtain ⟨c, rfl⟩ := Nat.exists_eq_add_of_le hab
  rw [runFor_add, runFor_stop _ _ h]

/-- the machine of the pattern codeA at the start of an attempt -/
def mA (text : Array Nat) (s hd : Nat) (o : Bool) (sn : Sre.Seen) : M :=
  { code := codeA, text := text, lim := text.size, start := s, lastStart := text.size, pc := 5, pos := s, handed := hd, outermost := o, marks := #[],
    frames := [{ wait := .nextStart, pc := 5, pos := s, outermost := o }], weight := 1, seen := sn }

theorem mA_step (text : Array Nat) (s hd : Nat) (o : Bool) (sn : Sre.Seen) :
    M.step (mA text s hd o sn) = if (s == 0 || text.getD (s - 1) 0 == 10) then { mA text s hd o ((sn.add 6).add 44) with pc := 7 } else (mA text s hd o ((sn.add 6).add 44)).say false := rfl
theorem mA_no (text : Array Nat) (s hd : Nat) (o : Bool) (sn : Sre.Seen) :
    M.step ((mA text s hd o sn).say false) = if s < text.size then mA text (s + 1) (s + 1) false sn else
      { code := codeA, text := text, lim := text.size, start := s, lastStart := text.size, pc := 5, pos := s, handed := hd, outermost := o, marks := #[], frames := [], weight := 0, seen := sn, answer := some false } := rfl
theorem runFor_one (m : M) (h : m.outcome = none) (n : Nat) : M.runFor (n + 1) m = M.runFor n m.step := by
  rw [M.runFor, h]; rfl

theorem mA_fails {text : Array Nat} (hno : ∀ i, text.getD i 0 ≠ 10) : ∀ (k s hd : Nat) (o : Bool) (sn : Sre.Seen), text.size - s = k → 0 < s → s ≤ text.size →
    ∃ m, M.runFor (2 * k + 3) (mA text s hd o sn) = m ∧ m.outcome = some .failed
  | 0, s, hd, o, sn, hk, h0, hs => by
    have e1 : (s == 0 || text.getD (s - 1) 0 == 10) = false := by
      simp only [Bool.or_eq_false_iff, beq_eq_false_iff_ne]
      exact ⟨by omega, hno (s - 1)⟩
    refine ⟨_, rfl, ?_⟩
    rw [runFor_one _ rfl, mA_step, e1, if_neg (by simp)]
    rw [runFor_one _ rfl, mA_no, if_neg (by omega)]
    rw [runFor_one _ rfl]; rfl
  | k + 1, s, hd, o, sn, hk, h0, hs => by
    have e1 : (s == 0 || text.getD (s - 1) 0 == 10) = false := by
      simp only [Bool.or_eq_false_iff, beq_eq_false_iff_ne]
      exact ⟨by omega, hno (s - 1)⟩
    obtain ⟨m, h1, h2⟩ := mA_fails hno k (s + 1) (s + 1) false ((sn.add 6).add 44) (by omega) (by omega) (by omega)
    refine ⟨m, ?_, h2⟩
    rw [← h1, show 2 * (k + 1) + 3 = (2 * k + 3) + 1 + 1 by omega]
    rw [runFor_one _ rfl, mA_step, e1, if_neg (by simp)]
    rw [runFor_one _ rfl, mA_no, if_pos (by omega)]

/-- the pattern codeA: no match from a place behind the first sign, none in a text without a dot ahead -/
theorem searchA_none {text : Array Nat} (hno : ∀ i, text.getD i 0 ≠ 10) (pos : Nat) (h : 0 < pos ∨ text.getD 0 0 ≠ 46) :
    ∃ n m, n ≤ 2 * text.size + 4 ∧ M.runFor n (forSearch codeA text 0 pos text.size false) = m ∧ m.outcome = some .failed := by
  by_cases hp : pos > text.size ∨ text.size - pos < 1
  · refine ⟨1, _, by omega, rfl, ?_⟩
    have e : forSearch codeA text 0 pos text.size false = M.say { code := codeA, text := text, lim := text.size, start := pos, pc := 5, pos := pos, handed := pos, marks := #[], seen := ({} : Sre.Seen).add 14 } false := by
      show (if pos > text.size || text.size - pos < 1 then _ else _) = _
      rw [if_pos (by simpa using hp)]; rfl
    rw [e]; rfl
  · have e : forSearch codeA text 0 pos text.size false = mA text pos pos true (({} : Sre.Seen).add 14) := by
      show (if pos > text.size || text.size - pos < 1 then _ else _) = _
      rw [if_neg (by simpa using hp)]; rfl
    rw [e]
    rcases Nat.eq_zero_or_pos pos with rfl | h0
    · have h46 : text.getD 0 0 ≠ 46 := h.resolve_left (by omega)
      have hs : 0 < text.size := by omega
      obtain ⟨m, h1, h2⟩ := mA_fails hno (text.size - 1) 1 1 false ((((({} : Sre.Seen).add 14).add 6).add 44).add 16) (by omega) (by omega) (by omega)
      refine ⟨(2 * (text.size - 1) + 3) + 1 + 1 + 1, m, by omega, ?_, h2⟩
      rw [← h1]
      rw [runFor_one _ rfl, mA_step, if_pos (show (0 == 0 || text.getD (0 - 1) 0 == 10) = true from rfl)]
      rw [runFor_one _ rfl]
      have e2 : M.step { mA text 0 0 true (((({} : Sre.Seen).add 14).add 6).add 44) with pc := 7 } = M.say { mA text 0 0 true ((((({} : Sre.Seen).add 14).add 6).add 44).add 16) with pc := 7 } false := by
        show (if 0 ≥ text.size then _ else match (Except.ok (text.getD 0 0 == 46, _) : Except String (Bool × Sre.Seen)) with | .error why => _ | .ok (false, seen) => _ | .ok (true, seen) => _) = _
        rw [if_neg (by omega), show (text.getD 0 0 == 46) = false by simpa using h46]; rfl
      rw [e2, runFor_one _ rfl]
      have e3 : M.step (M.say { mA text 0 0 true ((((({} : Sre.Seen).add 14).add 6).add 44).add 16) with pc := 7 } false) = if 0 < text.size then mA text 1 1 false ((((({} : Sre.Seen).add 14).add 6).add 44).add 16) else _ := rfl
      rw [e3, if_pos hs]
    · obtain ⟨m, h1, h2⟩ := mA_fails hno (text.size - pos) pos pos true (({} : Sre.Seen).add 14) rfl h0 (by omega)
      exact ⟨_, m, by omega, h1, h2⟩
/-- a dot ahead: matched from 0 to 1 -/
theorem searchA_dot {text : Array Nat} (h : text[0]? = some 46) :
    ∃ m, M.runFor 5 (forSearch codeA text 0 0 text.size false) = m ∧ m.outcome = some .matched ∧ m.start = 0 ∧ m.handed = 1 := by
  have hs : 0 < text.size := by
    rcases Nat.eq_zero_or_pos text.size with e | e
    · rw [Array.getElem?_eq_none (by omega)] at h; cases h
    · exact e
  have h46 : text.getD 0 0 = 46 := by simp [Array.getD_eq_getD_getElem?, h]
  have e : forSearch codeA text 0 0 text.size false = mA text 0 0 true (({} : Sre.Seen).add 14) := by
    show (if 0 > text.size || text.size - 0 < 1 then _ else _) = _
    rw [if_neg (by simp only [Bool.or_eq_true, decide_eq_true_eq]; omega)]; rfl
  refine ⟨_, rfl, ?_⟩
  rw [e, runFor_one _ rfl, mA_step, if_pos (show (0 == 0 || text.getD (0 - 1) 0 == 10) = true from rfl), runFor_one _ rfl]
  have e2 : M.step { mA text 0 0 true (((({} : Sre.Seen).add 14).add 6).add 44) with pc := 7 } = { mA text 0 0 true ((((({} : Sre.Seen).add 14).add 6).add 44).add 16) with pc := 9, pos := 1 } := by
    show (if 0 ≥ text.size then _ else match (Except.ok (text.getD 0 0 == 46, _) : Except String (Bool × Sre.Seen)) with | .error why => _ | .ok (false, seen) => _ | .ok (true, seen) => _) = _
    rw [if_neg (by omega), show (text.getD 0 0 == 46) = true by simp [h46]]; rfl
  rw [e2, runFor_one _ rfl, runFor_one _ rfl, runFor_one _ rfl]
  exact ⟨rfl, rfl, rfl⟩

theorem admB {text : Array Nat} (hno : ∀ i, text.getD i 0 ≠ 10 ∧ text.getD i 0 ≠ 13) (m : M) (hc : m.code = codeB) (ht : m.text = text) : ∀ (fuel s : Nat) (sn : Sre.Seen), ∃ sn', M.admitted m fuel s sn = .ok (none, sn')
  | 0, _, sn => ⟨sn, rfl⟩
  | fuel + 1, s, sn => by
    unfold M.admitted
    by_cases h : s ≥ m.lim
    · exact ⟨sn, by rw [if_pos h]⟩
    · rw [if_neg h, hc, ht]
      have h1 : (text.getD s 0 == 10) = false := by simpa using (hno s).1
      have h2 : (text.getD s 0 == 13) = false := by simpa using (hno s).2
      have : ∃ sn', inSet codeB (text.getD s 0) codeB.size 5 true sn = .ok (false, sn') := by
        generalize text.getD s 0 = c at h1 h2
        refine ⟨((sn.add 16).add 16).add 0, ?_⟩
        show (if (c == 10) = true then Except.ok (true, sn.add 16) else (if (c == 13) = true then Except.ok (true, (sn.add 16).add 16) else Except.ok (false, ((sn.add 16).add 16).add 0))) = _
        rw [h1, h2]
        rfl
      obtain ⟨sn', e⟩ := this
      rw [e]
      exact admB hno m hc ht fuel (s + 1) sn'
theorem searchB_none {text : Array Nat} (hno : ∀ i, text.getD i 0 ≠ 10 ∧ text.getD i 0 ≠ 13) (pos : Nat) :
    ∃ m, M.runFor 1 (forSearch codeB text 0 pos text.size false) = m ∧ m.outcome = some .failed := by
  by_cases hp : pos > text.size ∨ text.size - pos < 1
  · refine ⟨_, rfl, ?_⟩
    have e : forSearch codeB text 0 pos text.size false = M.say { code := codeB, text := text, lim := text.size, start := pos, pc := 10, pos := pos, handed := pos, marks := #[], seen := ({} : Sre.Seen).add 14 } false := by
      show (if pos > text.size || text.size - pos < 1 then _ else _) = _
      rw [if_pos (by simpa using hp)]; rfl
    rw [e]; rfl
  · obtain ⟨sn', hadm⟩ := admB hno { code := codeB, text := text, lim := text.size, start := pos, lastStart := text.size, pc := 10, pos := pos, handed := pos, marks := #[], seen := ({} : Sre.Seen).add 14 } rfl rfl (text.size + 1 - pos) pos (({} : Sre.Seen).add 14)
    refine ⟨_, rfl, ?_⟩
    have e : forSearch codeB text 0 pos text.size false = M.say { code := codeB, text := text, lim := text.size, start := pos, lastStart := text.size, pc := 10, pos := pos, handed := pos, marks := #[], seen := sn' } false := by
      show (if pos > text.size || text.size - pos < 1 then _ else (M.attemptFrom { code := codeB, text := text, lim := text.size, start := pos, lastStart := text.size, pc := 10, pos := pos, handed := pos, marks := #[], seen := ({} : Sre.Seen).add 14 } pos true)) = _
      rw [if_neg (by simpa using hp)]
      show (match M.admitted _ (text.size + 1 - pos) pos (({} : Sre.Seen).add 14) with | .ok (some s, seen) => _ | .ok (none, seen) => _ | .error why => _) = _
      rw [hadm]
    rw [e]; rfl
end Mine
end SSrePure
section SSubRule
open PySem PySem.W PyProof.Rows PySem.Calls
set_option Elab.async false
set_option maxRecDepth 100000
namespace Mine
open PySem.Sre PySem.Builtin PySem.Builtin.Re

section
variable {M : Model} {A : Around} {E : Value → Shared → Prop} {s : Shared}
theorem wpAny_reDrive : ∀ (turns n : Nat) (m : Sre.M) (Q : Sre.M → Shared → Prop), (Sre.M.runFor n m).outcome.isSome = true → n < turns → Q (Sre.M.runFor n m) s → wpAny M A (reDrive turns m) Q E s
  | 0, n, _, _, _, h, _ => absurd h (Nat.not_lt_zero _)
  | turns + 1, n, m, Q, ho, hn, h => by
    unfold reDrive
    show wpAny M A (if ((Sre.M.runFor 4 m).outcome.isSome) = true then pure (Sre.M.runFor 4 m) else (rule "sre.turn" >>= fun _ => reDrive turns (Sre.M.runFor 4 m))) Q E s
    by_cases h4 : (Sre.M.runFor 4 m).outcome.isSome = true
    · rw [if_pos h4]
      have e : Sre.M.runFor 4 m = Sre.M.runFor n m := by
        rcases Nat.le_total n 4 with l | l
        · exact runFor_ge ho l
        · exact (runFor_ge h4 l).symm
      rw [e]; exact wpAny_pure h
    · rw [if_neg h4]
      have l : 4 < n := by
        rcases Nat.lt_or_ge 4 n with l | l
        · exact l
        · exact absurd (by rw [runFor_ge ho l]; exact ho) h4
      have e : Sre.M.runFor n m = Sre.M.runFor (n - 4) (Sre.M.runFor 4 m) := by rw [← runFor_add]; congr 1; omega
      rw [e] at ho h
      exact wpAny_bind (wpAny_rule (wpAny_reDrive turns (n - 4) _ Q ho (by omega) h))

theorem wpAny_forRules {α : Type} {f : α → PUnit → Sem (ForInStep PUnit)} (hf : ∀ x, (f x ⟨⟩ = pure (.yield ⟨⟩)) ∨ ∃ t, f x ⟨⟩ = (rule t >>= fun _ => pure (.yield ⟨⟩))) {Q : PUnit → Shared → Prop} (h : Q ⟨⟩ s) (l : List α) : wpAny M A (forIn l ⟨⟩ f) Q E s := by
  refine wpAny_forIn_list f (fun _ _ s' => Q ⟨⟩ s') Q (fun x rest b s' hI => ?_) (fun b s' hI => hI) l ⟨⟩ h
  cases b
  rcases hf x with e | ⟨t, e⟩
  · rw [e]; exact wpAny_pure hI
  · rw [e]; exact wpAny_bind (wpAny_rule (wpAny_pure hI))

theorem wpAny_reRunToEnd {n : Nat} {m : Sre.M} {Q : Option Sre.M → Shared → Prop} (hn : n < 2 ^ 64) (h : ((Sre.M.runFor n m).outcome = some .matched ∧ Q (some (Sre.M.runFor n m)) s) ∨ ((Sre.M.runFor n m).outcome = some .failed ∧ Q none s)) :
    wpAny M A (reRunToEnd m) Q E s := by
  unfold reRunToEnd
  have ho : (Sre.M.runFor n m).outcome.isSome = true := by rcases h with h | h <;> rw [h.1] <;> rfl
  refine wpAny_bind (wpAny_reDrive (2 ^ 64) n m _ ho hn ?_)
  generalize Sre.M.runFor n m = m' at h
  refine wpAny_bind (wpAny_forRules (fun i => ?_) ?_ _)
  · by_cases hs : m'.seen.has i = true
    · right
      refine ⟨Sre.names.getD i "", ?_⟩
      simp [hs]
    · left
      simp [hs]
  · rcases h with ⟨e, h⟩ | ⟨e, h⟩
    · rw [e]; exact wpAny_pure h
    · rw [e]; exact wpAny_pure h
end

/-- a compiled pattern of strs without groups, its code being code -/
structure IsPat (h : Heap) (P : Addr) (code : Array Nat) : Prop where
  at_ : ∃ a b c d cT u v sl, h.get? P = some ⟨.type "re.Pattern", none, .fields #[a, b, .int 0 u, c, d, .ref cT, .int 0 v], sl⟩ ∧
    ∃ ct dd xs n sl2, h.get? cT = some ⟨ct, dd, .seq xs n, sl2⟩ ∧ (xs.map reRawOf).map (·.toNat) = code

abbrev tgt (P : Addr) (x : PySem.Str) (t : Tok) (code : Array Nat) : ReTarget := { pattern := .ref P, string := .str x t, code := code, text := x.cps, kind := 0, groups := 0, pos := 0, lim := x.cps.size }
section
variable {M : Model} {A : Around} {E : Value → Shared → Prop} {s : Shared} {P : Addr} {code : Array Nat} {x : PySem.Str} {t : Tok}
theorem wpAny_reWholeTarget {Q : ReTarget → Shared → Prop} (hp : IsPat s.heap P code) (h : Q (tgt P x t code) s) : wpAny M A (reWholeTarget (.ref P) (.str x t)) Q E s := by
  obtain ⟨a, b, c, d, cT, u, v, sl, hP, ct, dd, xs, n, sl2, hc, hx⟩ := hp.at_
  unfold reWholeTarget
  refine wpAny_bind (wpAny_fieldsOf hP rfl ?_)
  show wpAny M A (reRawItems (.ref cT) >>= fun r => pure ({ pattern := .ref P, string := .str x t, code := r.map (·.toNat), text := x.cps, kind := 0, groups := 0, pos := 0, lim := x.cps.size } : ReTarget)) Q E s
  refine wpAny_bind ?_
  unfold reRawItems
  refine wpAny_bind (wpAny_seqItems hc rfl ?_)
  refine wpAny_pure (wpAny_pure ?_)
  have : ((some xs).getD #[]).map reRawOf = xs.map reRawOf := rfl
  rw [this, hx]; exact h
end

theorem entry_subloop : entryFor table "re.Pattern.sub.loop" = some Builtin.«re.Pattern.sub.loop» := entryFor_of_tree (by kernel_rfl)
theorem plain_subloop : plainId "re.Pattern.sub.loop" = true := by decide +kernel
section
variable {prog : Program} {w : World} {A A' : Around} {E : Value → Shared → Prop} {s : Shared} {P D : Addr} {code : Array Nat} {l0 : List Nat} {t u : Tok} {r : PySem.Str} {R : Result → Shared → Prop}
theorem codeAny_plain {id : String} {args : Args} {b : Builtin} (hb : entryFor table id = some b) (hq : plainId id = true)
    (h : wpAny (model prog w) A.in1 (b args) (fun fin s' => match fin with | .done f => R (.ok f) s' | .again c' => c'.quiet = true ∧ codeAny (model prog w) A c' R s') (fun e s' => R (.error e) s') s) :
    codeAny (model prog w) A (.builtin id args) R s := by
  refine codeAny_of_tree ?_
  rw [Around.under_plainId hq]
  show wpAny _ _ (match entryFor table id with | some b => b args | none => unsupported ((withoutEnding? id "#data").getD id)) _ _ s
  rw [hb]; exact h

theorem join_nil : ∀ l : List PySem.Str, PySem.Str.join (S []) l = S (l.flatMap (·.cps.toList))
  | [] => rfl
  | [x] => by simp only [List.flatMap_cons, List.flatMap_nil, List.append_nil]; exact S_eq x
  | x :: y :: r => by
    show x ++ S [] ++ PySem.Str.join (S []) (y :: r) = _
    rw [join_nil (y :: r)]
    have e : (x :: y :: r).flatMap (·.cps.toList) = x.cps.toList ++ (y :: r).flatMap (·.cps.toList) := List.flatMap_cons
    rw [e, ← S_append, ← S_eq x]
    have : x ++ S [] = x := by conv => lhs; rw [S_eq x, S_append, List.append_nil, ← S_eq x]
    rw [this]
theorem txt_join_nil (l : List PySem.Str) : Txt.join (S []) l = S (l.flatMap (·.cps.toList)) := by
  show Builtin.Str.glued (S []) l = _
  rw [StrLaws.glued_eq_join, join_nil]
theorem joinOk_nil {l : List PySem.Str} (h : (l.flatMap (·.cps.toList)).length ≤ 16777216) : JoinOk (S []) l = true := by
  unfold JoinOk Builtin.Str.tooLong
  rw [StrLaws.joinTotal]
  have e : (l.map (·.length)).sum = (l.flatMap (·.cps.toList)).length := by
    rw [List.length_flatMap]; congr 1
  rw [e, show (S []).length = 0 from rfl, Nat.mul_zero, Nat.add_zero, Bool.not_eq_true']
  exact decide_eq_false (by rw [sizeLine_eq]; omega)
theorem sub_tail {l : List (PySem.Str × Tok)} {nn : Nat} {n : Int} (hD : s.heap.get? D = some ⟨.type "list", none, .seq (strValues l).toArray nn, #[]⟩) (hsz : (l.flatMap (·.1.cps.toList)).length ≤ 16777216)
    (h : ∀ tk t', R (.ok (.ret (.str (S (l.flatMap (·.1.cps.toList))) t'))) { s with toks := tk }) :
    wpAny (model prog w) A (do
      let joiner ← reSlice l0.toArray 0 0 0
      let __do_lift ← seqItems? (Value.ref D)
      if (__do_lift.getD #[]).isEmpty = true then do
          let text ← pure joiner
          if false = true then do
              let __do_lift ←
                holding [text] do
                    let __do_lift ← mkInt n
                    newTuple [text, __do_lift]
              ret __do_lift
            else ret text
        else do
          let text ← call (Value.builtin (if ((0 : Nat) == 0) = true then "str.join" else "bytes.join")) [joiner, Value.ref D]
          if false = true then do
              let __do_lift ←
                holding [text] do
                    let __do_lift ← mkInt n
                    newTuple [text, __do_lift]
              ret __do_lift
            else ret text)
      (fun fin s' => match fin with | .done f => R (.ok f) s' | .again c' => c'.quiet = true ∧ codeAny (model prog w) A' c' R s') E s := by
  refine wpAny_bind (show wpAny _ _ (mkStr ⟨l0.toArray.extract 0 0⟩) _ _ _ from wpAny_mkStr ?_ (by simp [PySem.Str.length]))
  refine wpAny_bind (wpAny_seqItems (s := { s with toks := s.toks + 1 }) hD rfl ?_)
  have e0 : (⟨l0.toArray.extract 0 0⟩ : PySem.Str) = S [] := by simp
  cases l with
  | nil =>
    rw [if_pos (by rfl)]
    refine wpAny_bind (wpAny_pure ?_)
    rw [if_neg (by simp), e0]
    exact wpAny_pure (h _ _)
  | cons p l =>
    rw [if_neg (by simp [strValues]), e0]
    refine wpAny_bind (SC.join (s := { s with toks := s.toks + 1 }) (l := p :: l) ⟨_, hD, rfl, _, rfl⟩ rfl (joinOk_nil ?_) ?_)
    · rw [List.flatMap_map]; exact hsz
    · intro t' k
      rw [if_neg (by simp), txt_join_nil, List.flatMap_map]
      exact wpAny_pure (h _ _)
theorem push_list {xs : Array Value} {nn : Nat} {v : Value} {Q : Unit → Shared → Prop} {M : Model} (hD : s.heap.get? D = some ⟨.type "list", none, .seq xs nn, #[]⟩) (hz : xs.size ≤ 1000000)
    (h : ∀ h', h'.get? D = some ⟨.type "list", none, .seq (xs.push v) (nn + 1), #[]⟩ → (∀ b o, b ≠ D → s.heap.get? b = some o → h'.get? b = some o) → Q () { s with heap := h' }) : wpAny M A (updateSeq D (fun x => x.push v)) Q E s := by
  refine wpAny_updateSeq hD rfl (h _ ?_ fun b o hb e => (Heap.get?_update_ne _ _ _ _ hb).trans e) (by rw [sizeLine_eq]; omega) (by rw [Array.size_push, sizeLine_eq]; omega)
  rw [Heap.get?_update_self _ hD rfl]
  simp [Obj.mapSeq]
theorem loop_end {n : Int} {done start nn : Nat} {l : List (PySem.Str × Tok)} (hp : IsPat s.heap P code) (hD : s.heap.get? D = some ⟨.type "list", none, .seq (strValues l).toArray nn, #[]⟩)
    (hl : l.length ≤ 1) (hsz : (l.flatMap (·.1.cps.toList)).length + l0.length ≤ 16777216) (hs : ∃ k m, k < 2 ^ 64 ∧ Sre.M.runFor k (forSearch code (S l0).cps 0 start (S l0).cps.size false) = m ∧ m.outcome = some .failed)
    (hR : ∀ h' tk t', (∀ b o, b ≠ D → s.heap.get? b = some o → h'.get? b = some o) → R (.ok (.ret (.str (S (l.flatMap (·.1.cps.toList) ++ l0.drop done)) t'))) { s with heap := h', toks := tk }) :
    codeAny (model prog w) A (.builtin "re.Pattern.sub.loop" ⟨[.ref P, .str (S l0) t, .str r u, rawInt 0, rawInt 0, rawInt n, rawInt done, rawInt start, .bool false, .ref D, .bool false], []⟩) R s := by
  refine codeAny_plain entry_subloop plain_subloop ?_
  unfold Builtin.«re.Pattern.sub.loop»
  dsimp only [rawInt]
  refine wpAny_bind (wpAny_reWholeTarget hp ?_)
  rw [if_pos (show ((0 : Int) == 0) = true from rfl)]
  refine wpAny_bind (show wpAny _ _ (reLiteralCannotBeTurned (.str r u)) _ _ _ from wpAny_pure ?_)
  rw [if_neg (by simp)]
  obtain ⟨k, m, hk, hm, ho⟩ := hs
  refine wpAny_bind (wpAny_reRunToEnd (n := k) hk (.inr ⟨by rw [Int.toNat_natCast]; show (Sre.M.runFor k (forSearch code (S l0).cps 0 start (S l0).cps.size false)).outcome = _; rw [hm]; exact ho, ?_⟩))
  dsimp only
  rw [Int.toNat_natCast]
  have hl0 : (l0.toArray).size = l0.length := by simp
  by_cases hlt : done < l0.toArray.size
  · rw [if_pos hlt]
    refine wpAny_bind (show wpAny _ _ (mkStr ⟨l0.toArray.extract done l0.toArray.size⟩) _ _ _ from wpAny_mkStr ?_ (by simp [PySem.Str.length]; rw [sizeLine_eq]; omega))
    refine wpAny_bind (push_list (s := { s with toks := s.toks + 1 }) hD (by simp [strValues]; omega) fun h' hD' hk' => ?_)
    have e1 : (⟨l0.toArray.extract done l0.toArray.size⟩ : PySem.Str) = S (l0.drop done) := by
      have : l0.toArray.extract done l0.toArray.size = (l0.drop done).toArray := by
        apply Array.toList_inj.mp; simp; exact List.take_of_length_le (by simp)
      rw [this]
    rw [e1] at hD'
    have e2 : (strValues l).toArray.push (.str (S (l0.drop done)) s.toks) = (strValues (l ++ [(S (l0.drop done), s.toks)])).toArray := by simp [strValues]
    rw [e2] at hD'
    have e3 : ((l ++ [(S (l0.drop done), s.toks)]).flatMap (·.1.cps.toList)) = l.flatMap (·.1.cps.toList) ++ l0.drop done := by simp
    refine sub_tail (l := l ++ [(S (l0.drop done), s.toks)]) (s := { s with heap := h', toks := s.toks + 1 }) hD' (by rw [e3, List.length_append, List.length_drop]; omega) fun tk t' => ?_
    rw [e3]
    exact hR h' tk t' hk'
  · rw [if_neg hlt]
    have e3 : l0.drop done = [] := List.drop_eq_nil_of_le (by omega)
    refine sub_tail (l := l) hD (by omega) fun tk t' => ?_
    have := hR s.heap tk t' fun _ _ _ e => e
    rw [e3, List.append_nil] at this
    exact this
theorem slot_pat_sub : Slot "re.Pattern" "sub" "re.Pattern.sub" :=
  .of (owner := "re.Pattern") (n := "sub") (by rw [typeLookup_type, builtinLookup_eq_fast]; kernel_rfl) (by decide +kernel) (by decide +kernel) (by decide +kernel)
    (by first | exact .inl (by decide +kernel) | exact .inr (by decide +kernel)) (by rw [isSubtype_type]; kernel_rfl)
theorem entry_pat_sub : entryFor table "re.Pattern.sub" = some Builtin.«re.Pattern.sub» := entryFor_of_tree (by kernel_rfl)
theorem args_pat_sub (a b c : Value) : argsOk "re.Pattern.sub" ⟨[a, b, c], []⟩ := by unfold argsOk; kernel_rfl
theorem plainAttrs_pat : PlainAttrs "re.Pattern" :=
  ⟨⟨"object.__getattribute__", by rw [typeLookup_type, builtinLookup_eq_fast]; kernel_rfl, by decide +kernel⟩, by rw [typeLookup_type, builtinLookup_eq_fast]; kernel_rfl⟩
theorem type_pat_sub : typeOf (.builtin "re.Pattern.sub") = pure (.type "method_descriptor") := by show builtinType _ = _; rw [builtinType_eq_fast]; kernel_rfl
theorem str_nocall : typeLookup (.type "str") "__call__" = pure none := by rw [typeLookup_type, builtinLookup_eq_fast]; kernel_rfl
theorem IsPat.typeIs (hp : IsPat s.heap P code) : s.TypeIs (.ref P) "re.Pattern" := by
  obtain ⟨a, b, c, d, cT, u, v, sl, hP, _⟩ := hp.at_
  exact ⟨_, hP, rfl⟩
theorem getMethod_pat {pl : Sem Bool} {M : Model} {E : Value → Shared → Prop} {Q : Value × List Value → Shared → Prop} (hp : IsPat s.heap P code) (h : Q (.builtin "re.Pattern.sub", [.ref P]) s) :
    wpAny M A (getMethod (.ref P) "sub" pl) Q E s :=
  getMethod_builtin hp.typeIs plainAttrs_pat slot_pat_sub type_pat_sub (fun a e => by
    cases e
    obtain ⟨a, b, c, d, cT, u, v, sl, hP, _⟩ := hp.at_
    exact ⟨_, hP, rfl⟩) h

theorem reNamed_two (a b : Value) : reNamed "re.Pattern.sub" "sub" ["repl", "string", "count"] 2 [a, b] [] = pure [some a, some b, none] := by rfl
theorem sub_call {E : Value → Shared → Prop} {Q : Value → Shared → Prop} {res : List Nat} (hp : IsPat s.heap P code) (hl0 : l0.length ≤ 1000000) (hr : r.cps.contains 92 = false) (hr2 : r.length ≤ 1000)
    (hs : ((∃ k m, k < 2 ^ 64 ∧ Sre.M.runFor k (forSearch code (S l0).cps 0 0 (S l0).cps.size false) = m ∧ m.outcome = some .failed) ∧ res = l0) ∨
      ((∃ k m, k < 2 ^ 64 ∧ Sre.M.runFor k (forSearch code (S l0).cps 0 0 (S l0).cps.size false) = m ∧ m.outcome = some .matched ∧ m.start = 0 ∧ m.handed = 1) ∧
       (∃ k m, k < 2 ^ 64 ∧ Sre.M.runFor k (forSearch code (S l0).cps 0 1 (S l0).cps.size false) = m ∧ m.outcome = some .failed) ∧ res = r.cps.toList ++ l0.drop 1))
    (h : ∀ h' tk t', (∀ b o, s.heap.get? b = some o → h'.get? b = some o) → Q (.str (S res) t') { s with heap := h', toks := tk }) :
    wpAny (model prog w) A (call (.builtin "re.Pattern.sub") [.ref P, .str r u, .str (S l0) t]) Q E s := by
  refine wpAny_call (codeAny_call_builtin slot_pat_sub.plain entry_pat_sub (slot_pat_sub.check _ _ _ _ _ _ _ _ hp.typeIs (args_pat_sub _ _ _) ?_))
  unfold Builtin.«re.Pattern.sub» reSubstitute
  dsimp only
  rw [reNamed_two]
  refine wpAny_bind (wpAny_pure ?_)
  dsimp only
  refine wpAny_bind (wpAny_pure ?_)
  refine wpAny_bind (wpAny_specialOf (typeIs_str _ _ _) str_nocall ?_)
  rw [if_neg (by simp)]
  refine wpAny_bind (show wpAny _ _ (asStr? (.str r u)) _ _ _ from wpAny_pure ?_)
  dsimp only
  refine wpAny_bind (wpAny_pure ?_)
  rw [if_neg (by simp), hr, if_pos (by simp)]
  refine wpAny_bind (wpAny_pure ?_)
  dsimp only
  refine wpAny_bind (wpAny_holding (wpAny_reWholeTarget hp ?_))
  rw [if_neg (by simp)]
  refine wpAny_bind (wpAny_newObj_type ?_)
  refine wpAny_pure ⟨Code.quiet_builtin _ (by decide +kernel), ?_⟩
  have hp' : IsPat (s.heap.push { cls := .type "list", data := .seq #[] }) P code := by
    obtain ⟨a, b, c, d, cT, u, v, sl, hP, ct, dd, xs, n, sl2, hc, hx⟩ := hp.at_
    exact ⟨a, b, c, d, cT, u, v, sl, Heap.get?_push_of_some _ hP, ct, dd, xs, n, sl2, Heap.get?_push_of_some _ hc, hx⟩
  have hD : (s.heap.push { cls := .type "list", data := .seq #[] }).get? s.heap.objs.size = some ⟨.type "list", none, .seq #[] 0, #[]⟩ := Heap.get?_push_size _ rfl
  have hkeep : ∀ b o, s.heap.get? b = some o → b ≠ s.heap.objs.size ∧ (s.heap.push { cls := .type "list", data := .seq #[] }).get? b = some o := fun b o e => ⟨Nat.ne_of_lt (Heap.lt_size e), Heap.get?_push_of_some _ e⟩
  generalize hH : s.heap.push { cls := .type "list", data := .seq #[] } = H at hp' hD hkeep
  rcases hs with ⟨hs, rfl⟩ | ⟨⟨k, m, hk, hm, ho, hst, hh⟩, hs, rfl⟩
  · exact loop_end (s := { s with heap := H }) (l := []) (done := 0) (start := 0) hp' hD (by simp) (by simp; omega) hs fun h' tk t' hk' => h h' tk t' fun b o e => hk' b o (hkeep b o e).1 (hkeep b o e).2
  · refine codeAny_plain entry_subloop plain_subloop ?_
    unfold Builtin.«re.Pattern.sub.loop»
    dsimp only [rawInt]
    refine wpAny_bind (wpAny_reWholeTarget (s := { s with heap := H }) hp' ?_)
    rw [if_pos (show ((0 : Int) == 0) = true from rfl)]
    refine wpAny_bind (show wpAny _ _ (reLiteralCannotBeTurned (.str r u)) _ _ _ from wpAny_pure ?_)
    rw [if_neg (by simp)]
    refine wpAny_bind (wpAny_reRunToEnd (n := k) hk (.inl ⟨by show (Sre.M.runFor k (forSearch code (S l0).cps 0 0 (S l0).cps.size false)).outcome = _; rw [hm]; exact ho, ?_⟩))
    have hm' : Sre.M.runFor k (forSearch code (S l0).cps 0 (0 : Int).toNat (S l0).cps.size false) = m := hm
    dsimp only
    rw [hm']
    rw [hst, hh, if_neg (by simp)]
    rw [if_pos (show ((0 : Int) == 0) = true from rfl)]
    refine wpAny_bind (wpAny_pure ?_)
    rw [if_pos (by simp)]
    refine wpAny_bind (push_list (s := { s with heap := H }) hD (by simp) fun h' hD' hk' => ?_)
    refine wpAny_pure ⟨Code.quiet_builtin _ (by decide +kernel), ?_⟩
    have hp2 : IsPat h' P code := by
      obtain ⟨a, b, c, d, cT, u, v, sl, hP, ct, dd, xs, n, sl2, hc, hx⟩ := hp.at_
      have z := fun b o e => hk' b o (hkeep b o e).1 (hkeep b o e).2
      exact ⟨a, b, c, d, cT, u, v, sl, z _ _ hP, ct, dd, xs, n, sl2, z _ _ hc, hx⟩
    refine loop_end (s := { s with heap := h' }) (l := [(r, u)]) (n := 0 + 1) (done := 1) (start := 1) (nn := 0 + 1) hp2 (by simpa [strValues] using hD') (by simp) (by simp [PySem.Str.length] at hr2 ⊢; omega) hs fun h2 tk t' hk2 => ?_
    have := h h2 tk t' fun b o e => hk2 b o (hkeep b o e).1 (hk' b o (hkeep b o e).1 (hkeep b o e).2)
    simpa using this
end

theorem isPat_K {K : Frag} {h : Heap} {P cT : Addr} {a b c d : Value} {u v n : Nat} {sl sl2 : Array (Option Value)} {ct : Value} {dd : Option Addr} {xs : Array Value} {code : Array Nat} (X : K.In h)
    (e1 : K.lookup P = some ⟨.type "re.Pattern", none, .fields #[a, b, .int 0 u, c, d, .ref cT, .int 0 v], sl⟩) (e2 : K.lookup cT = some ⟨ct, dd, .seq xs n, sl2⟩) (e3 : (xs.map reRawOf).map (·.toNat) = code) : IsPat h P code :=
  ⟨a, b, c, d, cT, u, v, sl, X _ _ e1, ct, dd, xs, n, sl2, X _ _ e2, e3⟩
def qd (l : List Nat) : List Nat := if l.head? = some 46 then 46 :: l else l
section
variable {prog : Program} {w : World} {A : Around} {E : Value → Shared → Prop} {s : Shared} {h₀ : Heap} {L : Addr} {m : PySem.Str → Option Value} {news : List (Addr × Obj)} {P : Addr} {l : List Nat} {t u : Tok} {Q : Value → Shared → Prop} {r : PySem.Str}
theorem getD_S {l : List Nat} {c : Nat} (hc : c ≠ 0) (h : c ∉ l) (i : Nat) : (S l).cps.getD i 0 ≠ c := by
  intro e
  rw [Array.getD_eq_getD_getElem?] at e
  cases q : (S l).cps[i]? with
  | none => rw [q] at e; exact hc e.symm
  | some x =>
    rw [q] at e
    have : x = c := e
    subst this
    exact h (by have := List.mem_of_getElem? (l := l) (i := i) (a := x) (by simpa [S] using q); exact this)
theorem sub_B (hp : IsPat s.heap P codeB) (hl : l.length ≤ 1000000) (h10 : 10 ∉ l) (h13 : 13 ∉ l) (hr : r.cps.contains 92 = false) (hr2 : r.length ≤ 1000) (F : Fr h₀ L s.heap m) (N : News h₀ L s.heap news)
    (h : ∀ h' tk t', Fr h₀ L h' m → News h₀ L h' news → Q (.str (S l) t') { s with heap := h', toks := tk }) : wpAny (model prog w) A (call (.builtin "re.Pattern.sub") [.ref P, .str r u, .str (S l) t]) Q E s := by
  obtain ⟨m1, h1, h2⟩ := searchB_none (text := (S l).cps) (fun i => ⟨getD_S (by decide) h10 i, getD_S (by decide) h13 i⟩) 0
  exact sub_call hp hl hr hr2 (.inl ⟨⟨1, m1, by decide, h1, h2⟩, rfl⟩) fun h' tk t' hk => h h' tk t' (F.keeps hk) fun p hp => ⟨hk _ _ (N p hp).1, (N p hp).2⟩
theorem sub_A (hp : IsPat s.heap P codeA) (hl : l.length ≤ 1000000) (h10 : 10 ∉ l) (er : r = S [46, 46]) (F : Fr h₀ L s.heap m) (N : News h₀ L s.heap news)
    (h : ∀ h' tk t', Fr h₀ L h' m → News h₀ L h' news → Q (.str (S (qd l)) t') { s with heap := h', toks := tk }) : wpAny (model prog w) A (call (.builtin "re.Pattern.sub") [.ref P, .str r u, .str (S l) t]) Q E s := by
  subst er
  have hsz : (S l).cps.size = l.length := by simp [S]
  have hno := fun i => getD_S (l := l) (c := 10) (by decide) h10 i
  have fin : ∀ h' tk t', (∀ b o, s.heap.get? b = some o → h'.get? b = some o) → Q (.str (S (qd l)) t') { s with heap := h', toks := tk } :=
    fun h' tk t' hk => h h' tk t' (F.keeps hk) fun p hp => ⟨hk _ _ (N p hp).1, (N p hp).2⟩
  by_cases hd : l.head? = some 46
  · obtain ⟨m1, h1, h2, h3, h4⟩ := searchA_dot (text := (S l).cps) (by cases l with | nil => cases hd | cons a l => simp at hd; subst hd; simp [S])
    obtain ⟨n2, m2, hn, h5, h6⟩ := searchA_none (text := (S l).cps) hno 1 (.inl (by decide))
    refine sub_call (res := qd l) hp hl (by decide +kernel) (by decide) (.inr ⟨⟨5, m1, by decide, h1, h2, h3, h4⟩, ⟨n2, m2, by rw [hsz] at hn; omega, h5, h6⟩, ?_⟩) fin
    cases l with
    | nil => cases hd
    | cons a l => simp at hd; subst hd; rfl
  · obtain ⟨n2, m2, hn, h5, h6⟩ := searchA_none (text := (S l).cps) hno 0 (.inr (by cases l with | nil => simp [S] | cons a l => simpa [S] using hd))
    exact sub_call (res := qd l) hp hl (by decide +kernel) (by decide) (.inl ⟨⟨n2, m2, by rw [hsz] at hn; omega, h5, h6⟩, by simp [qd, hd]⟩) fin
end
end Mine
end SSubRule
section SLib2
open PySem PySem.W PyProof.Rows PySem.Calls
set_option Elab.async false
set_option maxRecDepth 100000
namespace Mine
theorem S_rev (l : List Nat) (u : Tok) : Txt.sliceBy (S l) none none (-1, u) = S l.reverse := by
  have h := step_rev_list (S l) u
  have hlen : (S l).length = l.length := S_len l
  rw [S_eq (Txt.sliceBy (S l) none none (-1, u)), h]
  congr 2
  apply List.ext_getElem?
  intro i
  rw [List.getElem?_map, hlen]
  by_cases hi : i < l.length
  · rw [List.getElem?_range hi, List.getElem?_reverse hi]
    simp only [Option.map_some]
    rw [Array.getD_eq_getD_getElem?]
    have : (S l).cps[l.length - 1 - i]? = l[l.length - 1 - i]? := by simp [S]
    rw [this, List.getElem?_eq_getElem (by omega)]; rfl
  · rw [List.getElem?_eq_none (by simp; omega), List.getElem?_eq_none (by simp; omega)]; rfl

theorem head_off {c d : Addr} {o : Obj} {l : List (Addr × Obj)} (h : c ≠ d) (off : ∀ p ∈ l, p.1 ≠ c) : ∀ p ∈ (d, o) :: l, p.1 ≠ c := List.forall_mem_cons.mpr ⟨h.symm, off⟩
theorem allLt_ne1 {d : Addr} {l : List (Addr × Obj)} (h : AllLt d l) : ∀ p ∈ l, p.1 ≠ d + 1 := fun p hp => Nat.ne_of_lt (Nat.lt_succ_of_lt (PySem.W.kst_ltOf h p hp))
theorem off_cons {p : Addr × Obj} {l : List (Addr × Obj)} {bs : List Addr} (h1 : ∀ b ∈ bs, p.1 ≠ b) (h2 : OwnOff l bs) : OwnOff (p :: l) bs := fun q hq c hc => by
  rcases List.mem_cons.mp hq with e | hq
  · rw [e]; exact h1 c hc
  · exact h2 q hq c hc
theorem off_sub {l : List (Addr × Obj)} {bs cs : List Addr} (h : OwnOff l bs) (hs : ∀ c ∈ cs, c ∈ bs) : OwnOff l cs := fun p hp c hc => h p hp c (hs c hc)
def ones (l : List Nat) : List PySem.Str := l.map fun c => S [c]
section
variable {prog : Program} {w : World} {A : Around} {E : Value → Shared → Prop} {s : Shared} {h₀ : Heap} {L : Addr} {m : PySem.Str → Option Value} {news : List (Addr × Obj)} {Q : Value → Shared → Prop}
theorem list_strN {l : List Nat} {t : Tok} (hh : A.handled = none) (F : Fr h₀ L s.heap m) (N : News h₀ L s.heap news) (hl : l.length ≤ 1000000)
    (h : ∀ D h' tk (ys : List (PySem.Str × Tok)) c, Fr h₀ L h' m → News h₀ L h' ((D, listOf (strValues ys).toArray c) :: news) → (∀ p ∈ news, p.1 < D) → ys.map (·.1) = ones l → Q (.ref D) { s with heap := h', toks := tk }) :
    wpAny (model prog w) A (call (.type "list") [.str (S l) t]) Q E s := by
  refine call_list_str hh (S l) t (hn := by rw [sizeLine_eq]; simp [S]; omega) fun h' tk acc' c' hk hS' hacc => ?_
  have hsz : acc'.size = l.length := by have := hacc.1; simpa [S] using this
  have key : ∀ (n : Nat), n ≤ l.length → ∃ ys : List (PySem.Str × Tok), acc'.toList.take n = strValues ys ∧ ys.map (·.1) = ones (l.take n) := by
    intro n
    induction n with
    | zero => intro _; exact ⟨[], by simp [strValues], by simp [ones]⟩
    | succ n ih =>
      intro hn
      obtain ⟨ys, e1, e2⟩ := ih (by omega)
      have hlt : n < acc'.size := by omega
      obtain ⟨c, u, hc, hv⟩ := hacc.2 n acc'[n] (by simp [hlt])
      have hc' : l[n]? = some c := by simpa [S] using hc
      refine ⟨ys ++ [(S [c], u)], ?_, ?_⟩
      · rw [List.take_add_one, e1, Array.getElem?_toList]
        simp [strValues, hlt, hv, S]
      · rw [List.map_append, e2, List.take_add_one, hc']; simp [ones]
  obtain ⟨ys, e1, e2⟩ := key l.length (Nat.le_refl _)
  rw [List.take_of_length_le (by simp; omega)] at e1
  rw [List.take_length] at e2
  have e3 : acc' = (strValues ys).toArray := by apply Array.toList_inj.mp; simp [e1]
  subst e3
  have F' := F.keeps hk
  refine h _ h' tk ys c' F' ?_ (fun p hp => Heap.lt_size (N p hp).1) e2
  intro p hp
  rcases List.mem_cons.mp hp with rfl | hp
  · refine ⟨hS', ?_, ?_⟩
    · obtain ⟨oL, _, _, hL, _⟩ := F.ns
      exact Nat.ne_of_gt (Heap.lt_size hL)
    · cases q : h₀.get? s.heap.objs.size with
      | none => rfl
      | some o => exact absurd (Heap.lt_size (F.keep _ _ q)) (Nat.lt_irrefl _)
  · exact ⟨hk _ _ (N p hp).1, (N p hp).2⟩
end

theorem last_strs (ys : List (PySem.Str × Tok)) (y : PySem.Str) (ty : Tok) : kl_last (strValues (ys ++ [(y, ty)])) = some (strValues ys, .str y ty) := by
  have : strValues (ys ++ [(y, ty)]) = strValues ys ++ [.str y ty] := by simp [strValues]
  rw [this]; exact kpa_last _ _
theorem cut_strs (ys : List (PySem.Str × Tok)) (y : PySem.Str) (ty : Tok) : kl_cut (strValues ((y, ty) :: ys)) 0 = some ([], .str y ty, strValues ys) := rfl
section
variable {prog : Program} {w : World} {A : Around} {E : Value → Shared → Prop} {s : Shared} {h₀ : Heap} {L : Addr} {m : PySem.Str → Option Value} {news : List (Addr × Obj)} {Q : Value → Shared → Prop}
theorem ne_lens {l b : Addr} {its its2 : Array Value} {n n2 : Nat} (N : News h₀ L s.heap news) (h1 : (l, listOf its n) ∈ news) (h2 : (b, listOf its2 n2) ∈ news) (hne : (its.size != its2.size) = true) (hu : A.units < cLine) (h : Q (.bool true) s) :
    wpAny (model prog w) A (compareOp .NotEq (.ref l) (.ref b)) Q E s :=
  cmp_ofNotEq (PySem.SeqAt.RcNeAt.lists_lengths ⟨_, (N _ h1).1, rfl, _, rfl⟩ ⟨_, (N _ h2).1, rfl, _, rfl⟩ hne hu _ _ _ _ h)
theorem truthyN_cons {l : Addr} {q : PySem.Str × Tok} {qs : List (PySem.Str × Tok)} {n : Nat} {Q : Bool → Shared → Prop} (N : News h₀ L s.heap news) (h1 : (l, listOf (strValues (q :: qs)).toArray n) ∈ news) (hz : qs.length ≤ 1000000) (h : Q true { s with toks := s.toks + 1 + 1 }) :
    wpAny (model prog w) A (truthy (.ref l)) Q E s :=
  wpAny_truthy_list ⟨_, (N _ h1).1, rfl, _, rfl⟩ (by simp [strValues]; omega) h
theorem truthyN_nil {l : Addr} {n : Nat} {Q : Bool → Shared → Prop} (N : News h₀ L s.heap news) (h1 : (l, listOf (strValues []).toArray n) ∈ news) (h : Q false { s with toks := s.toks + 1 + 1 }) :
    wpAny (model prog w) A (truthy (.ref l)) Q E s :=
  wpAny_truthy_list ⟨_, (N _ h1).1, rfl, _, rfl⟩ (by simp [strValues]) h
end
end Mine
end SLib2
section SWhl2
open PySem PySem.W PyProof.Rows PySem.Calls
set_option Elab.async false
set_option maxRecDepth 100000
set_option maxHeartbeats 8000000
set_option pp.maxSteps 400
set_option autoImplicit false
namespace Mine
section
variable {prog : Program} {w : World} {A : Around} {env : Env} {h₀ : Heap} {s : Shared} {E : Value → Shared → Prop} {news : List (Addr × Obj)} {m : PySem.Str → Option Value}
/-- where a while loop stands -/
inductive WSt (env : Env) (h₀ : Heap) (news : List (Addr × Obj)) (Inv : Nat → (PySem.Str → Option Value) → Prop) (s : Shared) (n : Nat) (s' : Shared) : Prop
  | mk (h' : Heap) (tk : Nat) (m' : PySem.Str → Option Value)
    (c0 : s' = { s with heap := h', toks := tk })
    (c1 : 1 ≤ tk)
    (c2 : Inv n m')
    (c3 : Fr h₀ env.locals h' m')
    (c4 : News h₀ env.locals h' news) : WSt env h₀ news Inv s n s'
/-- what a turn leaves -/
def WTurn (env : Env) (h₀ : Heap) (news : List (Addr × Obj)) (Inv : Nat → (PySem.Str → Option Value) → Prop) (s : Shared) (n : Nat) (Q : Flow → Shared → Prop) (f : Flow) (s' : Shared) : Prop := match f with
  | .ret v => Q (.ret v) s'
  | .brk => Q .next s'
  | _ => ∃ k, k < n ∧ WSt env h₀ news Inv s k s'
theorem whileN {Inv : Nat → (PySem.Str → Option Value) → Prop} {Q : Flow → Shared → Prop} {test : Expr} {body : List Stmt} {pos : Pos} {n : Nat} (F : Fr h₀ env.locals s.heap m) (N : News h₀ env.locals s.heap news) (ht : 1 ≤ s.toks) (hi : Inv n m)
    (turn : ∀ n h tk m, 1 ≤ tk → Inv n m → Fr h₀ env.locals h m → News h₀ env.locals h news → ∀ E' : Value → Shared → Prop,
      wpAny (model prog w) A (isTrue test env (eval test env)) (fun b s₂ => if b = true then wpAny (model prog w) A (execs body env) (WTurn env h₀ news Inv s n Q) E' s₂ else Q .next s₂) E' { s with heap := h, toks := tk }) :
    wpAny (model prog w) A (exec (.While test body [] pos) env) Q E s := by
  refine wpAny_While (codeAny_whileLoop (WSt env h₀ news Inv s) ?_ n ⟨s.heap, s.toks, m, rfl, ht, hi, F, N⟩)
  rintro n s' ⟨h', tk, m', rfl, htk, hi', F', N'⟩
  refine wpAny_mono (turn n h' tk m' htk hi' F' N' _) (fun b s₂ hb => ?_) fun _ _ e => e
  cases b with
  | true =>
    rw [if_pos rfl] at hb ⊢
    refine wpAny_mono hb (fun f s₃ hf => ?_) fun _ _ e => e
    cases f <;> exact hf
  | false =>
    rw [if_neg (by simp)] at hb ⊢
    exact wpAny_execs_nil hb
end
end Mine
end SWhl2
section SCntP2
open PySem PySem.W PyProof.Rows PySem.Calls
set_option Elab.async false
set_option maxRecDepth 100000
set_option maxHeartbeats 8000000
set_option pp.maxSteps 400
set_option autoImplicit false
namespace Mine
def ampN (n : Nat) : List Nat := (List.replicate n [97, 109, 112, 59]).flatten
theorem ampN_succ (n : Nat) : ampN (n + 1) = 97 :: 109 :: 112 :: 59 :: ampN n := by simp [ampN, List.replicate_succ]
def wd (D n : Nat) (r : List Nat) : List Nat := List.replicate D 46 ++ 38 :: (ampN n ++ r)
theorem of_dot : PySem.Str.ofString "." = S [46] := by decide +kernel
theorem of_ampsc : PySem.Str.ofString "amp;" = S [97, 109, 112, 59] := by decide +kernel
end Mine
end SCntP2
section SDictLit
open PySem PySem.W PyProof.Rows PySem.Calls
set_option Elab.async false
set_option maxRecDepth 100000
namespace Mine
/-- the texts of a dict display -/
inductive LitKV : List (Option Expr) → List Expr → List (PySem.Str × PySem.Str) → Prop
  | nil : LitKV [] [] []
  | cons {k v : PySem.Str} {a b : Nat} {p q : Pos} {ks vs ps} : LitKV ks vs ps → LitKV (some (.Constant (.str k) a p) :: ks) (.Constant (.str v) b q :: vs) ((k, v) :: ps)
def AreKV : List (PySem.Str × PySem.Str) → List (Value × Value) → Prop
  | [], [] => True
  | p :: ps, v :: vs => (∃ t u, v = (.str p.1 t, .str p.2 u)) ∧ AreKV ps vs
  | _, _ => False
theorem areKV_keys {ps : List (PySem.Str × PySem.Str)} : ∀ {vs}, AreKV ps vs → allStrKeys vs = true ∧ (strPairs vs).map (·.1) = ps.map (·.1) := by
  induction ps with
  | nil =>
    intro vs h
    cases vs with
    | nil => exact ⟨rfl, rfl⟩
    | cons _ _ => exact h.elim
  | cons p ps ih =>
    intro vs h
    cases vs with
    | nil => exact h.elim
    | cons v vs =>
      obtain ⟨⟨t, u, e⟩, h⟩ := h
      subst e
      have := ih h
      exact ⟨this.1, by show p.1 :: (strPairs vs).map (·.1) = p.1 :: ps.map (·.1); rw [this.2]⟩
def nameAt (ps : List (PySem.Str × PySem.Str)) (k : PySem.Str) : Option PySem.Str := (ps.find? fun p => p.1 = k).map (·.2)
theorem areKV_at {ps : List (PySem.Str × PySem.Str)} : ∀ {vs}, AreKV ps vs → ∀ k, (valueAt (strPairs vs) k = none ∧ nameAt ps k = none) ∨ ∃ x u, nameAt ps k = some x ∧ valueAt (strPairs vs) k = some (.str x u) := by
  induction ps with
  | nil =>
    intro vs h k
    cases vs with
    | nil => exact .inl ⟨rfl, rfl⟩
    | cons _ _ => exact h.elim
  | cons p ps ih =>
    intro vs h k
    cases vs with
    | nil => exact h.elim
    | cons v vs =>
      obtain ⟨⟨t, u, e⟩, h⟩ := h
      subst e
      by_cases hk : p.1 = k
      · refine .inr ⟨p.2, u, ?_, ?_⟩
        · simp [nameAt, hk]
        · show ((List.find? (fun kv : PySem.Str × Value => decide (kv.1 = k)) ((p.1, .str p.2 u) :: strPairs vs)).map (·.2)) = _
          rw [List.find?_cons_of_pos (by simpa using hk)]; rfl
      · have e1 : valueAt (strPairs ((.str p.1 t, .str p.2 u) :: vs)) k = valueAt (strPairs vs) k := by
          show ((List.find? (fun kv : PySem.Str × Value => decide (kv.1 = k)) ((p.1, .str p.2 u) :: strPairs vs)).map (·.2)) = _
          rw [List.find?_cons_of_neg (by simpa using hk)]; rfl
        have e2 : nameAt (p :: ps) k = nameAt ps k := by
          unfold nameAt; rw [List.find?_cons_of_neg (by simpa using hk)]
        rw [e1, e2]; exact ih h k
def NamesOf (prog : Program) (w : World) (o : Obj) (ps : List (PySem.Str × PySem.Str)) : Prop := ∃ vs, AreKV ps vs ∧ o.IsDictOf (strKind prog w) (strPairs vs)
section
variable {prog : Program} {w : World} {A : Around} {E : Value → Shared → Prop} {s : Shared} {h₀ : Heap} {L d : Addr} {m : PySem.Str → Option Value} {news : List (Addr × Obj)} {env : Env} {o : Obj} {ps : List (PySem.Str × PySem.Str)}
theorem evalLits {pos : Pos} {keys : List (Option Expr)} {values : List Expr} (hl : LitKV keys values ps) : ∀ {Q : List (Value × Value) → Shared → Prop} {s : Shared},
    (∀ vs tk, s.toks ≤ tk → AreKV ps vs → Q vs { s with toks := tk }) → wpAny (model prog w) A (evalPairs (pairTrees keys values env pos)) Q E s := by
  induction hl with
  | nil => intro Q s h; exact pairTrees_nil_walk (h [] s.toks (Nat.le_refl _) trivial)
  | cons _ ih =>
    intro Q s h
    refine pairTrees_cons_walk (Constant_str_ (Constant_str_ (ih fun us tk ht hu => ?_)))
    exact h _ tk (Nat.le_trans (Nat.le_add_right _ 2) ht) ⟨⟨_, _, rfl⟩, hu⟩
theorem litKV_len {keys : List (Option Expr)} {values : List Expr} (hl : LitKV keys values ps) : keys.all (·.isSome) = true ∧ keys.length = values.length := by
  induction hl with
  | nil => exact ⟨rfl, rfl⟩
  | cons _ ih => exact ⟨by simp [ih.1], by simp [ih.2]⟩
/-- a dict display of written texts -/
theorem dict_lit {keys : List (Option Expr)} {values : List Expr} {pos : Pos} {Q : Value → Shared → Prop} (F : Fr h₀ L s.heap m) (N : News h₀ L s.heap news) (hbig : h₀.NoLimit) (hl : LitKV keys values ps) (h0 : keys ≠ []) (hlen : keys.length ≤ 15) (hn : (ps.map (·.1)).Nodup)
    (h : ∀ D o h' tk, 1 ≤ tk → Fr h₀ L h' m → News h₀ L h' ((D, o) :: news) → (∀ p ∈ news, p.1 < D) → (D == sysModules) = false → NamesOf prog w o ps → Q (.ref D) { s with heap := h', toks := tk }) :
    wpAny (model prog w) A (eval (.Dict keys values pos) env) Q E s := by
  refine Dict_made_str (s := s) (h₀ := h₀) (L := L) (m := m) (by clear h hn hlen h0; induction hl with | nil => rfl | cons _ ih => exact ih) F (litKV_len hl).1 (litKV_len hl).2 h0 hlen fun F1 => ?_
  refine evalLits hl fun vs tk ht hv => ?_
  have hk := areKV_keys hv
  have hne : vs.length ≠ 0 := by
    intro e
    have : vs = [] := List.length_eq_zero_iff.mp e
    subst this
    cases hl with
    | nil => exact h0 rfl
    | cons _ => exact hv.elim
  refine made_str F N hk.1 (by rw [hk.2]; exact hn) fun h' o F' N' hd => ?_
  exact h _ o h' _ (by show 1 ≤ tk + vs.length; omega) F' N' (fun p hp => Heap.lt_size (N p hp).1) (F.notModules (modules_low hbig)) ⟨vs, hv, hd⟩
theorem names_in {k : PySem.Str} {t : Tok} {Q : Value → Shared → Prop} (N : News h₀ L s.heap news) (hp : (d, o) ∈ news) (hd : NamesOf prog w o ps) (lo : (d == sysModules) = false) (b : Bool) (hb : (nameAt ps k).isSome = b) (h : Q (.bool b) { s with toks := s.toks + 1 }) :
    wpAny (model prog w) A (compareOp .In (.str k t) (.ref d)) Q E s := by
  obtain ⟨vs, hv, hd⟩ := hd
  refine kda_in N hp hd lo (strKind_is _ _ _ _) b ?_ h
  rw [← hb]
  rcases areKV_at hv k with ⟨e1, e2⟩ | ⟨x, u, e1, e2⟩
  · rw [e1, e2]; rfl
  · rw [e1, e2]; rfl
theorem names_item {k x : PySem.Str} {t : Tok} {value slice : PySem.Expr} {Q : Value → Shared → Prop} (N : News h₀ L s.heap news) (hp : (d, o) ∈ news) (hd : NamesOf prog w o ps) (hx : nameAt ps k = some x) (h : ∀ u, Q (.str x u) { s with toks := s.toks + 1 })
    (hs : subscripted slice false (.ref d) (.str k t) = operate [.ref d, .str k t] (getItem (.ref d) (.str k t)) := by with_unfolding_all rfl) (hg : ∀ r, letTemporaryGo value (.ref d) r = pure () := by intro _; with_unfolding_all rfl) :
    wpAny (model prog w) A (subscriptTail value slice (.ref d) (.str k t)) Q E s := by
  obtain ⟨vs, hv, hd⟩ := hd
  rcases areKV_at hv k with ⟨e1, e2⟩ | ⟨x', u, e1, e2⟩
  · rw [e2] at hx; cases hx
  · rw [e1] at hx; cases hx
    exact kda_item N hp hd (strKind_is _ _ _ _) e2 (h u) hs hg
end
end Mine
namespace Mine
section
variable {prog : Program} {w : World} {A : Around} {E : Value → Shared → Prop} {s : Shared} {h₀ : Heap} {L l : Addr} {news : List (Addr × Obj)}
/-- an item of a written list at a place -/
theorem menu_item {value slice : PySem.Expr} {vs : List Value} {n : Nat} {k : Int} {u : Tok} {v : Value} {Q : Value → Shared → Prop} (N : News h₀ L s.heap news) (hm : (l, listOf vs.toArray n) ∈ news) (h0 : 0 ≤ k) (hhi : k < 2 ^ 63) (hx : vs[k.toNat]? = some v) (h : Q v s)
    (hs : subscripted slice false (.ref l) (.int k u) = operate [.ref l, .int k u] (getItem (.ref l) (.int k u)) := by with_unfolding_all rfl) (hg : ∀ r, letTemporaryGo value (.ref l) r = pure () := by intro _; with_unfolding_all rfl) :
    wpAny (model prog w) A (subscriptTail value slice (.ref l) (.int k u)) Q E s := by
  have hl : s.heap.IsList l vs.toArray := ⟨_, (N _ hm).1, rfl, _, rfl⟩
  exact subscriptTail_builtin hl.typeIs slot_list_getitem.lookup (wpAny_getItem_list hl h0 hhi (by simpa using hx) h) hs hg
end
end Mine
namespace Mine
section
variable {prog : Program} {w : World} {A : Around} {E : Value → Shared → Prop} {s : Shared}
/-- a sign of a text at a place -/
theorem txt_item {value slice : PySem.Expr} {x : PySem.Str} {t u : Tok} {l : List Nat} {i : Int} {Q : Value → Shared → Prop} (k : Nat) (hx : x = S l) (hk : i = (k : Int)) (hi : k < l.length) (hz : l.length ≤ 1000000) (h : Q (.str (S [l.getD k 0]) s.toks) { s with toks := s.toks + 1 })
    (hs : subscripted slice false (.str x t) (.int i u) = operate [.str x t, .int i u] (getItem (.str x t) (.int i u)) := by with_unfolding_all rfl) (hg : ∀ r, letTemporaryGo value (.str x t) r = pure () := by intro _; with_unfolding_all rfl) :
    wpAny (model prog w) A (subscriptTail value slice (.str x t) (.int i u)) Q E s := by
  subst hx hk
  refine subscriptTail_builtin (typeIs_str s _ t) PySem.F.slot_str_getitem.lookup (P.getItem_str (c := l.getD k 0) ?_ ?_ h) hs hg
  · simp only [Bool.or_eq_false_iff, decide_eq_false_iff_not]; omega
  · have e : seqIndex? (k : Int) (S l).length = some k := by
      unfold seqIndex?
      rw [S_len]
      simp
      omega
    rw [e]
    show (S l).cps[k]? = some (l.getD k 0)
    simp [List.getD, hi]
end
theorem fdm (n a b : Nat) : ((n : Int).fdiv (a : Int)).fmod (b : Int) = ((n / a % b : Nat) : Int) := by
  rw [Int.fdiv_eq_ediv_of_nonneg _ (Int.natCast_nonneg a), Int.fmod_eq_emod_of_nonneg _ (Int.natCast_nonneg b)]; rfl
theorem fmn (n b : Nat) : (n : Int).fmod (b : Int) = ((n % b : Nat) : Int) := by
  rw [Int.fmod_eq_emod_of_nonneg _ (Int.natCast_nonneg b)]; rfl
end Mine
end SDictLit
section SWdP2
open PySem PySem.W PyProof.Rows PySem.Calls
set_option Elab.async false
set_option maxRecDepth 100000
set_option maxHeartbeats 8000000
set_option pp.maxSteps 400
set_option autoImplicit false
namespace Mine
theorem foldl_S (x : List Nat) : ∀ (n : Nat) (a : Array Nat), (List.replicate n x.toArray).foldl (· ++ ·) a = (a.toList ++ (List.replicate n x).flatten).toArray
  | 0, a => by simp
  | n + 1, a => by
    rw [List.replicate_succ, List.foldl_cons, foldl_S x n, List.replicate_succ]
    simp
theorem mulS (x : List Nat) (n : Nat) (i : Int) (hi : i = (n : Int)) : Txt.mul (S x) i = S (List.replicate n x).flatten := by
  subst hi
  unfold Txt.mul
  by_cases h1 : n < 1
  · have : n = 0 := by omega
    subst this
    rw [if_pos (by omega)]; rfl
  · rw [if_neg (by omega)]
    by_cases h2 : (((n : Int) == 1 || (S x).length == 0) = true)
    · rw [if_pos h2]
      rw [Bool.or_eq_true, beq_iff_eq, beq_iff_eq, S_len] at h2
      rcases h2 with h2 | h2
      · have : n = 1 := by omega
        subst this; simp
      · have : x = [] := List.length_eq_zero_iff.mp h2
        subst this; simp
    · rw [if_neg h2]
      show (⟨_⟩ : PySem.Str) = ⟨_⟩
      congr 1
      rw [Int.toNat_natCast]
      show (List.replicate n x.toArray).foldl (· ++ ·) #[] = _
      rw [foldl_S]; simp
theorem mul_dot (D : Nat) : Txt.mul (PySem.Str.ofString ".") (D : Int) = S (List.replicate D 46) := by
  rw [of_dot, mulS [46] D _ rfl]
  congr 1
  induction D with
  | zero => rfl
  | succ n ih => rw [List.replicate_succ, List.flatten_cons, ih, List.replicate_succ]; rfl
theorem mul_amp (A : Nat) (hA : 1 ≤ A) : Txt.mul (PySem.Str.ofString "amp;") ((A : Int) - 1) = S (ampN (A - 1)) := by
  rw [of_ampsc, mulS [97, 109, 112, 59] (A - 1) _ (by omega)]; rfl
/-- a sign of a word, spelled -/
def spell (tab : List (PySem.Str × PySem.Str)) (wr : Nat) (c : Nat) : List Nat := if 0 < wr then (match nameAt tab (S [c]) with | some x => 38 :: (ampN (wr - 1) ++ x.cps.toList) | none => [c]) else [c]
def wordOf (D A : Nat) (cs : List Nat) (tab : List (PySem.Str × PySem.Str)) (wr : Nat) : List Nat := wd D (A - 1) (cs.flatMap (spell tab wr))
theorem str_S (x : PySem.Str) : x = S x.cps.toList := by simp
/-- the word, its signs' spellings, the names: where the loop stands -/
def wInv (l : List Nat) (wr : Nat) (ND : Addr) (m : PySem.Str → Option Value) : Prop :=
  ∃ (t t3 : Tok) (m₂ : PySem.Str → Option Value), m = fun y => if y = ("word" : PySem.Str) then some (.str (S l) t) else if y = ("writings" : PySem.Str) then some (.int (wr : Int) t3) else if y = ("names" : PySem.Str) then some (.ref ND) else m₂ y
theorem spell_none {tab : List (PySem.Str × PySem.Str)} {c : Nat} (h : nameAt tab (S [c]) = none) (wr : Nat) : spell tab wr c = [c] := by
  unfold spell; rw [h]; simp
theorem spell_some {tab : List (PySem.Str × PySem.Str)} {c : Nat} {x : PySem.Str} (h : nameAt tab (S [c]) = some x) {wr : Nat} (hw : 0 < wr) : spell tab wr c = 38 :: (ampN (wr - 1) ++ x.cps.toList) := by
  unfold spell; rw [h, if_pos hw]
end Mine
end SWdP2
section SNm2
open PySem PySem.W PyProof.Rows PySem.Calls
set_option Elab.async false
set_option maxRecDepth 100000
set_option maxHeartbeats 8000000
set_option pp.maxSteps 400
set_option autoImplicit false
namespace Mine
/-- the names that an escape knows -/
def nmTab (h : Int) : List (PySem.Str × PySem.Str) :=
  if h = 0 then [(PySem.Str.ofString "&", PySem.Str.ofString "amp;"), (PySem.Str.ofString "<", PySem.Str.ofString "lt;"), (PySem.Str.ofString ">", PySem.Str.ofString "gt;")] else
  if h = 1 then [(PySem.Str.ofString "&", PySem.Str.ofString "amp;"), (PySem.Str.ofString "<", PySem.Str.ofString "lt;"), (PySem.Str.ofString ">", PySem.Str.ofString "gt;"), (PySem.Str.ofString "\"", PySem.Str.ofString "quot;"), (PySem.Str.ofString "\t", PySem.Str.ofString "#09;")] else
  if h = 2 then [(PySem.Str.ofString "&", PySem.Str.ofString "amp;"), (PySem.Str.ofString ">", PySem.Str.ofString "gt;"), (PySem.Str.ofString "\"", PySem.Str.ofString "quot;")] else
  if h = 3 then [(PySem.Str.ofString "&", PySem.Str.ofString "amp;"), (PySem.Str.ofString "<", PySem.Str.ofString "lt;"), (PySem.Str.ofString ">", PySem.Str.ofString "gt;")] else
  [(PySem.Str.ofString "&", PySem.Str.ofString "amp;"), (PySem.Str.ofString "<", PySem.Str.ofString "lt;"), (PySem.Str.ofString "\"", PySem.Str.ofString "quot;"), (PySem.Str.ofString "\t", PySem.Str.ofString "#x9;")]
/-- the names of a deed: 0 a reading, 1 a sending, the rest escapes -/
def tabOf (d : Nat) : List (PySem.Str × PySem.Str) := if d < 2 then [] else nmTab ((d - 2 : Nat) : Int)
end Mine
end SNm2
section SC02
open PySem PySem.W PyProof.Rows PySem.Calls
set_option Elab.async false
set_option maxRecDepth 100000
set_option maxHeartbeats 8000000
set_option pp.maxSteps 400
set_option autoImplicit false
namespace Mine
/-- what a call does, at any caller and any count of tokens -/
abbrev Ct0 (w : World) (D U : Nat) (f : Addr) (args : List Value) (news : List (Addr × Obj)) (pre : Prop) (Post : Value → List (Addr × Obj) → Prop) : Prop :=
  ∀ (p : Program) (loose : List Str) (mean : ExcName → Option Value) (mg mb : Str → Option Value) (dp un : Nat) (gd : Option (List Code)) (env : Env) (outer : List Env) (A₀ : Around) (base h₀ : Heap) (L : Addr) (m : Str → Option Value) (s : Shared) (Q E : Value → Shared → Prop),
    Below A₀ base outer h₀ → Fr h₀ L s.heap m → (hd.heap_39 w.params).In h₀ → News h₀ L s.heap news → Top p loose mean mg mb h₀ → env.frame = some L → env.scope.kind = .function → dp + D < recursionLimit → un + U < cLine → pre →
    (∀ r h' tk' news', Fr h₀ L h' m → News h₀ L h' news' → 1 ≤ tk' → Post r news' → Q r { s with heap := h', toks := tk' }) →
    codeAny (model PySem.Challenge.rw_rw0051_02.row.prog w) (cT dp un gd env outer) (.call (.ref f) ⟨args, []⟩) (fun r s' => match r with | .ok (.ret v) => Q v s' | .ok _ => False | .error e => E e s') s
section
variable {w : World} {D U : Nat} {f : Addr} {args : List Value} {news : List (Addr × Obj)} {pre : Prop} {Post : Value → List (Addr × Obj) → Prop}
theorem Ct0.ct (C : Ct0 w D U f args news pre Post) : Ct w D U f args news pre Post :=
  fun p loose mean mg mb dp un gd env outer A₀ base h₀ L m s Q E B F X N T hf hk hd hu _ hp ret => C p loose mean mg mb dp un gd env outer A₀ base h₀ L m s Q E B F X N T hf hk hd hu hp ret
theorem ct_use0 {p : Program} {loose : List Str} {mean : ExcName → Option Value} {mg mb : Str → Option Value} {dp un : Nat} {gd : Option (List Code)} {env : Env} {outer : List Env} {A₀ : Around} {base h₀ : Heap} {L : Addr} {m : Str → Option Value} {s : Shared} {Q E : Value → Shared → Prop}
    (C : Ct0 w D U f args news pre Post) (B : Below A₀ base outer h₀) (F : Fr h₀ L s.heap m) (X : (hd.heap_39 w.params).In h₀) (N : News h₀ L s.heap news) (T : Top p loose mean mg mb h₀) (hf : env.frame = some L) (hk : env.scope.kind = .function) (hd : dp + D < recursionLimit) (hu : un + U < cLine) (hp : pre)
    (ret : ∀ r h' tk' news', Fr h₀ L h' m → News h₀ L h' news' → 1 ≤ tk' → Post r news' → Q r { s with heap := h', toks := tk' }) :
    wpAny (model PySem.Challenge.rw_rw0051_02.row.prog w) (cT dp un gd env outer) (call (.ref f) args) Q E s :=
  wpAny_call (C _ _ _ _ _ _ _ _ _ _ _ _ _ _ _ _ _ _ B F X N T hf hk hd hu hp ret)
end
end Mine
end SC02
section SIterRule
open PySem PySem.W PyProof.Rows PySem.Calls
set_option Elab.async false
set_option maxRecDepth 100000
namespace Mine
open PySem.Builtin
theorem slot_ci_next : Slot "callable_iterator" "__next__" "callable_iterator.__next__" :=
  .of (owner := "callable_iterator") (n := "__next__") (by rw [typeLookup_type, builtinLookup_eq_fast]; kernel_rfl) (by decide +kernel) (by decide +kernel) (by decide +kernel)
    (by first | exact .inl (by decide +kernel) | exact .inr (by decide +kernel)) (by rw [isSubtype_type]; kernel_rfl)
theorem entry_ci_next : entryFor table "callable_iterator.__next__" = some Builtin.«callable_iterator.__next__» := entryFor_of_tree (by kernel_rfl)
theorem args_ci_next (a : Value) : argsOk "callable_iterator.__next__" ⟨[a], []⟩ := by unfold argsOk; kernel_rfl
theorem slot_ci_iter : Slot "callable_iterator" "__iter__" "callable_iterator.__iter__" :=
  .of (owner := "callable_iterator") (n := "__iter__") (by rw [typeLookup_type, builtinLookup_eq_fast]; kernel_rfl) (by decide +kernel) (by decide +kernel) (by decide +kernel)
    (by first | exact .inl (by decide +kernel) | exact .inr (by decide +kernel)) (by rw [isSubtype_type]; kernel_rfl)
theorem entry_ci_iter : entryFor table "callable_iterator.__iter__" = some Builtin.«dict_keyiterator.__iter__» :=
  entryFor_alias (id' := "dict_keyiterator.__iter__") (by kernel_rfl) rfl (by decide +kernel) (by kernel_rfl)
theorem args_ci_iter (a : Value) : argsOk "callable_iterator.__iter__" ⟨[a], []⟩ := by unfold argsOk; kernel_rfl

abbrev ciObj (f snt : Value) (over : Bool) : Obj := { cls := .type "callable_iterator", data := .fields #[f, snt, .bool over] }
section
variable {prog : Program} {w : World} {A : Around} {E : Value → Shared → Prop} {s : Shared} {I q x f : Addr}
theorem wpAny_callBorrowed {g : Value} {pos : List Value} {Q : Value → Shared → Prop}
    (hc : codeAny (model prog w) A (.call g ⟨pos, []⟩) (fun r s' => match r with | .ok (.ret v) => Q v s' | .ok _ => False | .error e => E e s') s) :
    wpAny (model prog w) A (callBorrowed g pos) Q E s := fun Γ p hΓ => by
  unfold callBorrowed
  rw [Sem.wp_call]
  refine wpCode_mono (fun r s' h => ?_) (hc _ p rfl (hΓ.enter (.call g ⟨pos, []⟩) none p (by intro x; cases x)))
  cases r with
  | error e => exact h
  | ok fl => cases fl <;> first | exact h | exact h.elim

theorem ci_borrows {Q : Bool → Shared → Prop} {fd : FuncData} {oc : Value} {od : Option Addr} {sl : Array (Option Value)} (hq : s.heap.get? q = some (methodObj (.ref f) (.ref x))) (hf : s.heap.get? f = some ⟨oc, od, .func fd, sl⟩) (h : Q true s) :
    wpAny (model prog w) A (borrowsExactly (.ref q)) Q E s := by
  unfold borrowsExactly
  refine wpAny_bind (wpAny_load hq ?_)
  dsimp only
  rw [if_pos (by rfl)]
  refine wpAny_bind (wpAny_load hf ?_)
  exact wpAny_pure h

theorem ci_calls {Q : Value → Shared → Prop} {fd : FuncData} {oc : Value} {od : Option Addr} {sl : Array (Option Value)} (hq : s.heap.get? q = some (methodObj (.ref f) (.ref x))) (hf : s.heap.get? f = some ⟨oc, od, .func fd, sl⟩)
    (hc : codeAny (model prog w) A (.call (.ref f) ⟨[.ref x], []⟩) (fun r s' => match r with | .ok (.ret v) => Q v s' | .ok _ => False | .error e => E e s') s) :
    wpAny (model prog w) A (callOutOfASlot (.ref q)) Q E s := by
  unfold callOutOfASlot
  refine wpAny_bind (ci_borrows hq hf ?_)
  rw [if_pos rfl]
  exact wpAny_callBorrowed (method_call hq hc)

theorem ci_type {o1 o2 : Value} {b : Bool} (hI : s.heap.get? I = some (ciObj o1 o2 b)) : s.TypeIs (.ref I) "callable_iterator" := ⟨_, hI, rfl⟩
theorem ci_next_item {Q : Option Value → Shared → Prop} {fd : FuncData} {oc : Value} {od : Option Addr} {sl : Array (Option Value)} {tS : Tok} (hI : s.heap.get? I = some (ciObj (.ref q) (.str (S []) tS) false))
    (hq : s.heap.get? q = some (methodObj (.ref f) (.ref x))) (hf : s.heap.get? f = some ⟨oc, od, .func fd, sl⟩)
    (hc : ∀ (E' : Value → Shared → Prop), codeAny (model prog w) A.in1 (.call (.ref f) ⟨[.ref x], []⟩) (fun r s' => match r with
      | .ok (.ret v) => (∃ c l tv, v = .str (S (c :: l)) tv ∧ s'.heap.get? I = some (ciObj (.ref q) (.str (S []) tS) false) ∧ Q (some (.str (S (c :: l)) tv)) s')
      | .ok _ => False | .error e => E' e s') s) :
    wpAny (model prog w) A (pyNext (.ref I)) Q E s := by
  unfold pyNext
  refine wpAny_bind (wpAny_attempt (wpAny_callSpecial?_slot (name := PySem.Str.ofString "__next__") (ci_type hI) slot_ci_next
    (wpAny_call_entry slot_ci_next (ci_type hI) entry_ci_next ?_ (args_ci_next _))))
  show wpAny _ _ (field (.ref I) 2 >>= _) _ _ s
  refine wpAny_bind (wpAny_field hI rfl (x := .bool false) rfl ?_)
  rw [if_neg (show ¬ ((Value.bool false == Value.bool true) = true) from Bool.false_ne_true)]
  refine wpAny_bind (wpAny_field hI rfl (x := .ref q) rfl ?_)
  refine wpAny_bind (wpAny_attempt (ci_calls hq hf ?_))
  refine codeAny_mono (hc fun _ _ => False) fun r s' h => ?_
  cases r with
  | error e => exact h.elim
  | ok fl =>
    cases fl with
    | ret v =>
      obtain ⟨c, l, tv, rfl, hI', hQ⟩ := h
      refine wpAny_bind (wpAny_field hI' rfl (x := .bool false) rfl ?_)
      rw [if_neg (show ¬ ((Value.bool false == Value.bool true) = true) from Bool.false_ne_true)]
      refine wpAny_bind (wpAny_field hI' rfl (x := .str (S []) tS) rfl ?_)
      refine wpAny_bind (wpAny_holding (eqBool_str ?_))
      have hne : (S [] == S (c :: l)) = false := by
        rw [beq_eq_false_iff_ne]; intro e; have := S_inj e; cases this
      rw [hne, if_pos (by rfl)]
      exact wpAny_bind (wpAny_pure (wpAny_pure ⟨_, rfl, wpAny_pure hQ⟩))
    | _ => exact h.elim

theorem wpAny_stopIter {α : Type} {Q : α → Shared → Prop} (hh : A.handled = none)
    (h : ∀ h' e, (∀ b o, s.heap.get? b = some o → h'.get? b = some o) → ({ s with heap := h' } : Shared).TypeIs (.ref e) "StopIteration" → E (.ref e) { s with heap := h' }) :
    wpAny (model prog w) A (SmallTypes.stopIteration : Sem α) Q E s := by
  unfold SmallTypes.stopIteration
  refine wpAny_bind ?_
  simp only [newExc, newTuple]
  refine wpAny_bind (wpAny_newObj_type ?_ (by size_fits))
  refine wpAny_bind (m := firstArgMember _ _) (wpAny_of_eq (a := Value.none) (by first | rfl | (simp only [firstArgMember]; rfl)) ?_)
  refine wpAny_newObj_type ?_ (by size_fits)
  simp only [raiseNew]
  refine wpAny_bind (wpAny_handled ?_)
  rw [show A.handled = none from hh]
  refine wpAny_bind (wpAny_pure (wpAny_throw ?_))
  exact h _ _ (fun b o e => Heap.get?_push_of_some _ (Heap.get?_push_of_some _ e)) ⟨_, Heap.get?_push_size _ rfl, rfl⟩
theorem ci_next_over {Q : Option Value → Shared → Prop} {o1 o2 : Value} (hh : A.handled = none) (hI : s.heap.get? I = some (ciObj o1 o2 true))
    (hQ : ∀ h', (∀ b o, s.heap.get? b = some o → h'.get? b = some o) → Q none { s with heap := h' }) :
    wpAny (model prog w) A (pyNext (.ref I)) Q E s := by
  unfold pyNext
  refine wpAny_bind (wpAny_attempt (wpAny_callSpecial?_slot (name := PySem.Str.ofString "__next__") (ci_type hI) slot_ci_next
    (wpAny_call_entry slot_ci_next (ci_type hI) entry_ci_next ?_ (args_ci_next _))))
  show wpAny _ _ (field (.ref I) 2 >>= _) _ _ s
  refine wpAny_bind (wpAny_field hI rfl (x := .bool true) rfl ?_)
  rw [if_pos (by rfl)]
  refine wpAny_bind (wpAny_rule (wpAny_bind (wpAny_stopIter hh fun h' e hk ht => ?_)))
  refine wpAny_bind (wpAny_isInstance ht isSubtype_stop ?_)
  exact wpAny_pure (hQ _ hk)
theorem ci_next_end {Q : Option Value → Shared → Prop} {fd : FuncData} {oc : Value} {od : Option Addr} {sl : Array (Option Value)} {tS : Tok} (hh : A.handled = none) (hI : s.heap.get? I = some (ciObj (.ref q) (.str (S []) tS) false))
    (hq : s.heap.get? q = some (methodObj (.ref f) (.ref x))) (hf : s.heap.get? f = some ⟨oc, od, .func fd, sl⟩)
    (hc : ∀ (E' : Value → Shared → Prop), codeAny (model prog w) A.in1 (.call (.ref f) ⟨[.ref x], []⟩) (fun r s' => match r with
      | .ok (.ret v) => (∃ tv, v = .str (S []) tv ∧ s'.heap.get? I = some (ciObj (.ref q) (.str (S []) tS) false) ∧ s'.heap.get? q = some (methodObj (.ref f) (.ref x)) ∧ s'.heap.get? f = some ⟨oc, od, .func fd, sl⟩ ∧
          (∀ h', h'.get? I = some (ciObj .none .none true) → (∀ b o, b ≠ I → s'.heap.get? b = some o → h'.get? b = some o) → Q none { s' with heap := h' }))
      | .ok _ => False | .error e => E' e s') s) :
    wpAny (model prog w) A (pyNext (.ref I)) Q E s := by
  unfold pyNext
  refine wpAny_bind (wpAny_attempt (wpAny_callSpecial?_slot (name := PySem.Str.ofString "__next__") (ci_type hI) slot_ci_next
    (wpAny_call_entry slot_ci_next (ci_type hI) entry_ci_next ?_ (args_ci_next _))))
  show wpAny _ _ (field (.ref I) 2 >>= _) _ _ s
  refine wpAny_bind (wpAny_field hI rfl (x := .bool false) rfl ?_)
  rw [if_neg (show ¬ ((Value.bool false == Value.bool true) = true) from Bool.false_ne_true)]
  refine wpAny_bind (wpAny_field hI rfl (x := .ref q) rfl ?_)
  refine wpAny_bind (wpAny_attempt (ci_calls hq hf ?_))
  refine codeAny_mono (hc fun _ _ => False) fun r s' h => ?_
  cases r with
  | error e => exact h.elim
  | ok fl =>
    cases fl with
    | ret v =>
      obtain ⟨tv, rfl, hI', hq', hf', hQ⟩ := h
      refine wpAny_bind (wpAny_field hI' rfl (x := .bool false) rfl ?_)
      rw [if_neg (show ¬ ((Value.bool false == Value.bool true) = true) from Bool.false_ne_true)]
      refine wpAny_bind (wpAny_field hI' rfl (x := .str (S []) tS) rfl ?_)
      refine wpAny_bind (wpAny_holding (eqBool_str ?_))
      rw [show (S [] == S []) = true from beq_self_eq_true _, if_neg (by simp)]
      refine wpAny_bind (wpAny_rule ?_)
      show wpAny _ _ ((do
        slotLetsGo "callable_iterator.__next__" (← field (.ref I) 0) _
        setField (.ref I) 0 .none; setField (.ref I) 1 .none; setField (.ref I) 2 (.bool true)) >>= fun _ => SmallTypes.stopIteration) _ _ s'
      refine wpAny_bind (wpAny_bind (wpAny_field hI' rfl (x := .ref q) rfl ?_))
      unfold slotLetsGo
      refine wpAny_bind (wpAny_bind (ci_borrows hq' hf' ?_))
      rw [if_pos rfl]
      refine wpAny_pure ?_
      refine wpAny_bind (wpAny_setField hI' rfl (by simp) ?_)
      refine wpAny_bind (wpAny_setField (s := { s' with heap := _ }) (Heap.get?_update_self _ hI' rfl) rfl (by simp [Obj.mapFields]) ?_)
      refine wpAny_setField (s := { s' with heap := _ }) (Heap.get?_update_self _ (Heap.get?_update_self _ hI' rfl) rfl) rfl (by simp [Obj.mapFields]) ?_
      refine wpAny_stopIter hh fun h' e hk ht => ?_
      refine wpAny_bind (wpAny_isInstance ht isSubtype_stop ?_)
      refine wpAny_pure (hQ h' (hk _ _ ?_) fun b o hb e => hk _ _ ?_)
      · rw [Heap.get?_update_self _ (Heap.get?_update_self _ (Heap.get?_update_self _ hI' rfl) rfl) rfl]; rfl
      · rw [Heap.get?_update_ne _ _ _ _ hb, Heap.get?_update_ne _ _ _ _ hb, Heap.get?_update_ne _ _ _ _ hb]; exact e
    | _ => exact h.elim

theorem method_callable : typeLookup (.type "method") "__call__" = pure (some (.builtin "method.__call__")) := by rw [typeLookup_type, builtinLookup_eq_fast]; kernel_rfl
theorem iter2 {Q : Value → Shared → Prop} {g : Value} {snt : Value} {o : Obj} (hq : s.heap.get? q = some (methodObj g snt)) {v : Value}
    (h : Q (.ref s.heap.objs.size) { s with heap := s.heap.push (ciObj (.ref q) v false) }) :
    wpAny (model prog w) A (call (.builtin "iter") [.ref q, v]) Q E s := by
  refine Calls.call_function_entry (by decide +kernel) (by decide +kernel) PySem.W.kdk_entry_iter (by unfold argsOk; kernel_rfl) ?_
  unfold Builtin.«iter»
  refine wpAny_bind (show wpAny _ _ (someArgs "iter" 1 2 ⟨[.ref q, v], []⟩) _ _ _ from wpAny_pure ?_)
  dsimp only
  refine wpAny_bind (wpAny_specialOf ⟨_, hq, rfl⟩ method_callable ?_)
  rw [if_neg (by simp)]
  refine wpAny_bind (wpAny_rule (wpAny_bind (wpAny_newObj_type ?_)))
  exact wpAny_pure ⟨_, rfl, h⟩
end
end Mine
end SIterRule
section SCompStr
open PySem PySem.W PyProof.Rows PySem.Calls
set_option Elab.async false
set_option maxRecDepth 100000
namespace Mine
section
variable {prog : Program} {w : World} {A : Around} {E : Value → Shared → Prop} {s : Shared} {h₀ : Heap} {L : Addr} {m : PySem.Str → Option Value} {env : Env}
/-- what a comprehension over a text wants of its source -/
inductive StrSrc (prog : Program) (w : World) (A : Around) (h₀ : Heap) (L : Addr) (m : PySem.Str → Option Value) (env : Env) (elt : Expr) (x : PySem.Str) (scope : Scope) (cl : List (PySem.Str × Addr)) (Q : Value → Shared → Prop) (xv : Value) (s₁ : Shared) : Prop
  | mk (t : Tok) (l : List Nat) (news : List (Addr × Obj))
    (c0 : xv = .str (S l) t)
    (c1 : A.handled = none)
    (c2 : Fr h₀ L s₁.heap m)
    (c3 : News h₀ L s₁.heap news)
    (c4 : l.length ≤ sizeLine)
    (c5 : ∀ s₂ : Shared, (∃ h, s₂ = { s₁ with heap := h }) → LCg.CompRest prog w A h₀ L m env elt x scope cl s₂ (fun _ => True) (SignAt (S l)) (LCg.FinE h₀ L m s₂ Q) l.length 0 [] news) : StrSrc prog w A h₀ L m env elt x scope cl Q xv s₁
/-- a text comes out, the heap as it was -/
def TxtOut (r : List Nat) (s₀ : Shared) (h : Heap) (y : Value) (s' : Shared) : Prop := ∃ t tk', y = .str (S r) t ∧ s' = { s₀ with heap := h, toks := tk' }
end
end Mine
end SCompStr
section SForT
open PySem PySem.W PyProof.Rows PySem.Calls
set_option Elab.async false
set_option maxRecDepth 100000
namespace Mine
section
variable {prog : Program} {w : World} {A : Around} {E : Value → Shared → Prop} {s : Shared} {h₀ : Heap} {L : Addr} {m : PySem.Str → Option Value} {env : Env} {news : List (Addr × Obj)}
/-- an iterator that hands on no tuple of its own -/
def plainIt (T : String) : Bool := !(["enumerate", "zip", "dict_itemiterator", "dict_reverseitemiterator", "odict_iterator", "itertools.zip_longest", "itertools.pairwise"].contains T)
theorem letGo_plain {target : Expr} {I : Addr} {v : Value} {o : Obj} {T : String} {Q : Unit → Shared → Prop} (ho : s.heap.get? I = some o) (hc : o.cls = .type T) (hp : plainIt T = true) (hQ : Q () s) :
    wpAny (model prog w) A (letOwnedTupleGo target (.ref I) v) Q E s := by
  have hp' : (["enumerate", "zip", "dict_itemiterator", "dict_reverseitemiterator", "odict_iterator", "itertools.zip_longest", "itertools.pairwise"].contains T) = false := by
    unfold plainIt at hp; rw [Bool.not_eq_true'] at hp; exact hp
  unfold letOwnedTupleGo
  split
  all_goals (try exact wpAny_pure hQ)
  all_goals
    split
    · rename_i e; cases e
      refine wpAny_bind (wpAny_load ho ?_)
      rw [hc]
      split
      · rename_i e1 _
        cases e1
        rw [hp', Bool.false_and, if_neg (by simp)]
        exact wpAny_pure hQ
      · exact wpAny_pure hQ
    · exact wpAny_pure hQ
/-- where a turn of a for loop ends -/
def FTurn (h₀ : Heap) (L : Addr) (s : Shared) (I : Addr) (oI : Obj) (J : (PySem.Str → Option Value) → List (Addr × Obj) → Prop) (Q : Flow → Shared → Prop) (f : Flow) (s' : Shared) : Prop := match f with
  | .ret v => Q (.ret v) s'
  | .brk => Q .next s'
  | _ => ∃ h' tk m' news', s' = { s with heap := h', toks := tk } ∧ 1 ≤ tk ∧ Fr h₀ L h' m' ∧ News h₀ L h' ((I, oI) :: news') ∧ (∀ p ∈ news', p.1 ≠ I) ∧ J m' news'
theorem FTurn.intro {I : Addr} {oI : Obj} {J : (PySem.Str → Option Value) → List (Addr × Obj) → Prop} {Q : Flow → Shared → Prop} {h' : Heap} {tk : Nat} {m' : PySem.Str → Option Value} {all : List (Addr × Obj)} (news' : List (Addr × Obj)) (F : Fr h₀ L h' m') (N : News h₀ L h' all) (ht : 1 ≤ tk)
    (sub : ∀ p ∈ (I, oI) :: news', p ∈ all) (off : ∀ p ∈ news', p.1 ≠ I) (hj : J m' news') : FTurn h₀ L s I oI J Q .next { s with heap := h', toks := tk } :=
  ⟨h', tk, m', news', rfl, ht, F, fun p hp => N p (sub p hp), off, hj⟩
/-- a for loop at its start: J tells the turns -/
inductive ForAt (prog : Program) (w : World) (A : Around) (h₀ : Heap) (env : Env) (target : Expr) (body : List Stmt) (Q : Flow → Shared → Prop) (it : Value) (s₂ : Shared) : Prop
  | mk (I : Addr) (fp : List Addr) (n : Nat) (P : Nat → Value → Prop) (St : Nat → Heap → Prop) (S : List (Addr × Obj) → Prop) (m : PySem.Str → Option Value) (news : List (Addr × Obj)) (J : Nat → (PySem.Str → Option Value) → List (Addr × Obj) → Prop)
    (c0 : it = .ref I)
    (c1 : Walks prog w A I fp [I] n P St)
    (c2 : (∀ i h, St i h → ∃ o T, h.get? I = some o ∧ o.cls = .type T ∧ plainIt T = true))
    (c3 : (∀ i (h h' : Heap) (o : Obj) (nw : List (Addr × Obj)), St i h → h.get? I = some o → h'.get? I = some o → (∀ b o, h₀.get? b = some o → h'.get? b = some o) → News h₀ env.locals h' nw → S nw → St i h'))
    (c4 : (∀ i m n, J i m n → S n))
    (c5 : 1 ≤ s₂.toks)
    (c6 : St 0 s₂.heap)
    (c7 : Fr h₀ env.locals s₂.heap m)
    (c8 : News h₀ env.locals s₂.heap news)
    (c9 : (∀ p ∈ news, p.1 ≠ I))
    (c10 : env.locals ≠ I)
    (c11 : h₀.get? I = none)
    (c12 : J 0 m news)
    (c13 : (∀ i v m₁ news₁ h tk oI (E' : Value → Shared → Prop), i < n → P i v → J i m₁ news₁ → 1 ≤ tk → Fr h₀ env.locals h m₁ → News h₀ env.locals h ((I, oI) :: news₁) → (∀ p ∈ news₁, p.1 ≠ I) →
      wpAny (model prog w) A (assign target env v) (fun _ s₃ => wpAny (model prog w) A (execs body env) (FTurn h₀ env.locals s₂ I oI (J (i + 1)) Q) E' s₃) E' { s₂ with heap := h, toks := tk }))
    (c14 : (∀ h tk m' news', 1 ≤ tk → J n m' news' → Fr h₀ env.locals h m' → News h₀ env.locals h news' → Q .next { s₂ with heap := h, toks := tk })) : ForAt prog w A h₀ env target body Q it s₂
/-- what a for loop wants of its source -/
def FSrc (prog : Program) (w : World) (A : Around) (E : Value → Shared → Prop) (h₀ : Heap) (env : Env) (target : Expr) (body : List Stmt) (Q : Flow → Shared → Prop) (xv : Value) (s₁ : Shared) : Prop :=
  wpAny (model prog w) A (pyIter xv) (fun it s₂ => ForAt prog w A h₀ env target body Q it s₂) E s₁
inductive FInv (h₀ : Heap) (L : Addr) (s₂ : Shared) (I : Addr) (n : Nat) (St : Nat → Heap → Prop) (J : Nat → (PySem.Str → Option Value) → List (Addr × Obj) → Prop) (k : Nat) (s' : Shared) : Prop
  | mk (h' : Heap) (tk i : Nat) (m' : PySem.Str → Option Value) (news' : List (Addr × Obj)) (c0 : s' = { s₂ with heap := h', toks := tk }) (c1 : 1 ≤ tk) (c2 : St i h') (c3 : Fr h₀ L h' m') (c4 : News h₀ L h' news') (c5 : ∀ p ∈ news', p.1 ≠ I) (c6 : J i m' news') (c7 : i ≤ n) (c8 : k = n + 1 - i) : FInv h₀ L s₂ I n St J k s'
theorem forW {target iter : Expr} {body : List Stmt} {pos : Pos} {Q : Flow → Shared → Prop} (_F₀ : Fr h₀ env.locals s.heap m) (hs : ∀ x, foldedSetIterable iter env x = pure x)
    (h : wpAny (model prog w) A (eval iter env) (FSrc prog w A E h₀ env target body Q) E s) :
    wpAny (model prog w) A (exec (.For target iter body [] pos) env) Q E s := by
  refine wpAny_For (wpAny_mono h (fun xv s₁ h₁ => wpAny_mono h₁ (fun it s₂ h₂ => ?_) fun _ _ e => e) fun _ _ e => e) hs
  obtain ⟨I, fp, n, P, St, S, m, news, J, rfl, W, hIo, hst, hJS, htk, h0, F, N, off, hLI, hI0, hj, turn, done⟩ := h₂
  refine codeAny_forLoop_any (FInv h₀ env.locals s₂ I n St J) ?_ (n + 1)
    ⟨s₂.heap, s₂.toks, 0, m, news, rfl, htk, h0, F, N, off, hj, Nat.zero_le _, rfl⟩
  rintro k s' ⟨h', tk, i, m', news', rfl, htk', hst', F', N', off', hj', hi, rfl⟩
  have next : ∀ h₁ : Heap, (∀ b o, b ∉ [I] → h'.get? b = some o → h₁.get? b = some o) → Fr h₀ env.locals h₁ m' ∧ News h₀ env.locals h₁ news' := fun h₁ hk₁ =>
    ⟨LCg.fr_but F' hk₁ hLI hI0, LCg.news_but N' hk₁ off'⟩
  by_cases hlt : i < n
  · refine wpAny_with_toks (n := 1) htk' (W.item i _ _ _ hlt hst' fun v h₁ tk₁ hP hst₁ hk₁ htk₁ => ?_)
    obtain ⟨F₁, N₁⟩ := next h₁ hk₁
    obtain ⟨oI, T, hoI, hcl, hpl⟩ := hIo _ _ hst₁
    refine letGo_plain hoI hcl hpl ?_
    have N₂ : News h₀ env.locals h₁ ((I, oI) :: news') := fun p hp => by
      rcases List.mem_cons.mp hp with rfl | hp
      · exact ⟨hoI, Ne.symm hLI, hI0⟩
      · exact N₁ p hp
    refine wpAny_mono (turn i v m' news' h₁ tk₁ oI _ hlt hP hj' htk₁ F₁ N₂ off') (fun _ s₃ h₃ => wpAny_mono h₃ (fun f s₄ h₄ => ?_) fun _ _ e => e) fun _ _ e => e
    have key : (∃ h'' tk m'' news'', s₄ = { s₂ with heap := h'', toks := tk } ∧ 1 ≤ tk ∧ Fr h₀ env.locals h'' m'' ∧ News h₀ env.locals h'' ((I, oI) :: news'') ∧ (∀ p ∈ news'', p.1 ≠ I) ∧ J (i + 1) m'' news'') →
        ∃ k', k' < n + 1 - i ∧ FInv h₀ env.locals s₂ I n St J k' s₄ := by
      rintro ⟨h'', tk, m'', news'', rfl, htk, F₂, N₂, off₂, hj₂⟩
      have N₃ : News h₀ env.locals h'' news'' := fun p hp => N₂ p (.tail _ hp)
      exact ⟨n + 1 - (i + 1), by omega, h'', tk, i + 1, m'', news'', rfl, htk, hst _ _ _ _ _ hst₁ hoI (N₂ _ (.head _)).1 F₂.keep N₃ (hJS _ _ _ hj₂), F₂, N₃, off₂, hj₂, hlt, rfl⟩
    cases f with
    | ret v => exact h₄
    | brk => exact h₄
    | cont => exact key h₄
    | next => exact key h₄
  · have hin : i = n := by omega
    subst hin
    refine wpAny_with_toks (n := 1) htk' (W.done _ _ _ hst' fun h₁ tk₁ hk₁ htk₁ => wpAny_execs_nil ?_)
    obtain ⟨F₁, N₁⟩ := next h₁ hk₁
    exact done h₁ tk₁ m' news' htk₁ hj' F₁ N₁
/-- over a list on the ledger -/
theorem forAt_list {target : Expr} {body : List Stmt} {Q : Flow → Shared → Prop} {l : Addr} {vs : List Value} {nn : Nat} (J : Nat → (PySem.Str → Option Value) → List (Addr × Obj) → Prop) (hh : A.handled = none) (F : Fr h₀ env.locals s.heap m) (N : News h₀ env.locals s.heap news) (hm : (l, listOf vs.toArray nn) ∈ news) (ht : 1 ≤ s.toks) (hj : J 0 m news)
    (turn : ∀ I oI i v m₁ news₁ h tk (E' : Value → Shared → Prop), (∀ p ∈ news, p.1 < I) → vs[i]? = some v → J i m₁ news₁ → (l, listOf vs.toArray nn) ∈ news₁ → 1 ≤ tk → Fr h₀ env.locals h m₁ → News h₀ env.locals h ((I, oI) :: news₁) → (∀ p ∈ news₁, p.1 ≠ I) →
      wpAny (model prog w) A (assign target env v) (fun _ s₃ => wpAny (model prog w) A (execs body env) (FTurn h₀ env.locals s I oI (fun m' n' => J (i + 1) m' n' ∧ (l, listOf vs.toArray nn) ∈ n') Q) E' s₃) E' { s with heap := h, toks := tk })
    (done : ∀ h tk m' news', 1 ≤ tk → J vs.length m' news' → Fr h₀ env.locals h m' → News h₀ env.locals h news' → Q .next { s with heap := h, toks := tk }) :
    wpAny (model prog w) A (pyIter (.ref l)) (fun it s₂ => ForAt prog w A h₀ env target body Q it s₂) E s := by
  have hl : s.heap.IsList l vs.toArray := ⟨_, (N _ hm).1, rfl, _, rfl⟩
  have hlt : l < s.heap.objs.size := Heap.lt_size (N _ hm).1
  refine wpAny_pyIter_list hl ?_
  have W := Walks.list (prog := prog) (w := w) hh s.heap.objs.size l (Nat.ne_of_lt hlt) vs.toArray
  refine ⟨s.heap.objs.size, _, _, _, _, fun n => (l, listOf vs.toArray nn) ∈ n, m, news, fun i m' n' => J i m' n' ∧ (l, listOf vs.toArray nn) ∈ n', rfl, W, fun i h st => by obtain ⟨o, e, c, _⟩ := st.1; exact ⟨o, _, e, c, by decide⟩, fun i h h' o nw st e e' hk Nw hS => ?_, fun _ _ _ x => x.2, ht,
    ⟨⟨_, Heap.get?_push_size _ rfl, rfl, rfl⟩, hl.at fun o e => Heap.get?_push_of_some _ e⟩, F.push _, N.grown fun _ _ e => Heap.get?_push_of_some _ e, fun p hp => Nat.ne_of_lt (Heap.lt_size (N p hp).1), Nat.ne_of_lt F.ns.lt, next_is_new F, ⟨hj, hm⟩, ?_, ?_⟩
  · refine ⟨?_, ⟨_, (Nw _ hS).1, rfl, _, rfl⟩⟩
    obtain ⟨o2, ho2, r⟩ := st.1
    rw [ho2] at e; cases e
    exact ⟨_, e', r⟩
  · rintro i v m₁ news₁ h tk oI E' hi hP ⟨hJ, hS⟩ htk F₁ N₁ off
    exact turn _ oI i v m₁ news₁ h tk E' (fun p hp => Heap.lt_size (N p hp).1) (by simpa using hP) hJ hS htk F₁ N₁ off
  · rintro h tk m' news' htk ⟨hJ, hS⟩ F₁ N₁
    exact done h tk m' news' htk (by simpa using hJ) F₁ N₁
/-- over a range -/
theorem forAt_range {target : Expr} {body : List Stmt} {Q : Flow → Shared → Prop} {r : Addr} {a₀ b₀ : Int} {t₀ u₀ v₀ : Tok} {n : Nat} (J : Nat → (PySem.Str → Option Value) → List (Addr × Obj) → Prop) (hh : A.handled = none) (hr : IsRange s.heap r a₀ b₀ 1 t₀ u₀ v₀) (hsmall : Builtin.Range.small a₀ b₀ 1 = true) (hn : Builtin.Range.rangeSize a₀ b₀ 1 = (n : Int)) (F : Fr h₀ env.locals s.heap m) (N : News h₀ env.locals s.heap news) (ht : 1 ≤ s.toks) (hj : J 0 m news)
    (turn : ∀ I oI i t m₁ news₁ h tk (E' : Value → Shared → Prop), (∀ p ∈ news, p.1 < I) → i < n → J i m₁ news₁ → 1 ≤ tk → Fr h₀ env.locals h m₁ → News h₀ env.locals h ((I, oI) :: news₁) → (∀ p ∈ news₁, p.1 ≠ I) →
      wpAny (model prog w) A (assign target env (.int (a₀ + (i : Int)) t)) (fun _ s₃ => wpAny (model prog w) A (execs body env) (FTurn h₀ env.locals s I oI (J (i + 1)) Q) E' s₃) E' { s with heap := h, toks := tk })
    (done : ∀ h tk m' news', 1 ≤ tk → J n m' news' → Fr h₀ env.locals h m' → News h₀ env.locals h news' → Q .next { s with heap := h, toks := tk }) :
    wpAny (model prog w) A (pyIter (.ref r)) (fun it s₂ => ForAt prog w A h₀ env target body Q it s₂) E s := by
  refine wpAny_pyIter_range hr hsmall ?_
  have W := LCg.range_walks (prog := prog) (w := w) (I := s.heap.objs.size) hh a₀ n
  refine ⟨s.heap.objs.size, _, _, _, _, fun _ => True, m, news, J, rfl, W, fun i h st => ⟨_, _, st, rfl, by decide⟩, fun i h h' o nw st e e' hk Nw _ => LCg.range_st (h₀ := h₀) (L := env.locals) i h h' o nw st e e' hk Nw trivial, fun _ _ _ _ => trivial, ht,
    (by show IsRangeIter _ _ _ _ _; rw [hn]; simpa using Heap.get?_push_size _ rfl), F.push _, N.grown fun _ _ e => Heap.get?_push_of_some _ e, fun p hp => Nat.ne_of_lt (Heap.lt_size (N p hp).1), Nat.ne_of_lt F.ns.lt, next_is_new F, hj, ?_, done⟩
  rintro i v m₁ news₁ h tk oI E' hi ⟨t, rfl⟩ hJ htk F₁ N₁ off
  exact turn _ oI i t m₁ news₁ h tk E' (fun p hp => Heap.lt_size (N p hp).1) hi hJ htk F₁ N₁ off
end
end Mine
namespace Mine
section
variable {prog : Program} {w : World} {A : Around} {E : Value → Shared → Prop} {s : Shared} {h₀ : Heap} {L : Addr} {m : PySem.Str → Option Value} {env : Env} {news : List (Addr × Obj)}
/-- a turn's end, the ledger as it was -/
def KTurn (h₀ : Heap) (L : Addr) (s : Shared) (I : Addr) (oI : Obj) (news : List (Addr × Obj)) (J : (PySem.Str → Option Value) → Prop) (Q : Flow → Shared → Prop) (f : Flow) (s' : Shared) : Prop := match f with
  | .ret v => Q (.ret v) s'
  | .brk => Q .next s'
  | _ => ∃ h' tk m', s' = { s with heap := h', toks := tk } ∧ 1 ≤ tk ∧ Fr h₀ L h' m' ∧ News h₀ L h' ((I, oI) :: news) ∧ J m'
theorem KTurn.intro {I : Addr} {oI : Obj} {J : (PySem.Str → Option Value) → Prop} {Q : Flow → Shared → Prop} {h' : Heap} {tk : Nat} {m' : PySem.Str → Option Value} {all : List (Addr × Obj)} (F : Fr h₀ L h' m') (N : News h₀ L h' all) (ht : 1 ≤ tk)
    (sub : ∀ p ∈ (I, oI) :: news, p ∈ all) (hj : J m') : KTurn h₀ L s I oI news J Q .next { s with heap := h', toks := tk } :=
  ⟨h', tk, m', rfl, ht, F, fun p hp => N p (sub p hp), hj⟩
theorem KTurn.toF {I : Addr} {oI : Obj} {J : (PySem.Str → Option Value) → Prop} {J' : (PySem.Str → Option Value) → List (Addr × Obj) → Prop} {Q : Flow → Shared → Prop} {f : Flow} {s' : Shared} (off : ∀ p ∈ news, p.1 ≠ I) (hj : ∀ m, J m → J' m news) (h : KTurn h₀ L s I oI news J Q f s') : FTurn h₀ L s I oI J' Q f s' := by
  cases f with
  | ret v => exact h
  | brk => exact h
  | next => obtain ⟨h', tk, m', e, ht, F, N, hJ⟩ := h; exact ⟨h', tk, m', news, e, ht, F, N, off, hj _ hJ⟩
  | cont => obtain ⟨h', tk, m', e, ht, F, N, hJ⟩ := h; exact ⟨h', tk, m', news, e, ht, F, N, off, hj _ hJ⟩
theorem forAt_rangeK {target : Expr} {body : List Stmt} {Q : Flow → Shared → Prop} {r : Addr} {a₀ b₀ : Int} {t₀ u₀ v₀ : Tok} {n : Nat} (J : Nat → (PySem.Str → Option Value) → Prop) (hh : A.handled = none) (hr : IsRange s.heap r a₀ b₀ 1 t₀ u₀ v₀) (hsmall : Builtin.Range.small a₀ b₀ 1 = true) (hn : Builtin.Range.rangeSize a₀ b₀ 1 = (n : Int)) (F : Fr h₀ env.locals s.heap m) (N : News h₀ env.locals s.heap news) (ht : 1 ≤ s.toks) (hj : J 0 m)
    (turn : ∀ I oI i t m₁ h tk (E' : Value → Shared → Prop), (∀ p ∈ news, p.1 < I) → i < n → J i m₁ → 1 ≤ tk → Fr h₀ env.locals h m₁ → News h₀ env.locals h ((I, oI) :: news) →
      wpAny (model prog w) A (assign target env (.int (a₀ + (i : Int)) t)) (fun _ s₃ => wpAny (model prog w) A (execs body env) (KTurn h₀ env.locals s I oI news (J (i + 1)) Q) E' s₃) E' { s with heap := h, toks := tk })
    (done : ∀ h tk m', 1 ≤ tk → J n m' → Fr h₀ env.locals h m' → News h₀ env.locals h news → Q .next { s with heap := h, toks := tk }) :
    wpAny (model prog w) A (pyIter (.ref r)) (fun it s₂ => ForAt prog w A h₀ env target body Q it s₂) E s := by
  refine forAt_range (fun i m' n' => n' = news ∧ J i m') hh hr hsmall hn F N ht ⟨rfl, hj⟩ ?_ ?_
  · rintro I oI i t m₁ news₁ h tk E' hlt hv ⟨rfl, hJ⟩ htk F₁ N₁ off
    exact wpAny_mono (turn I oI i t m₁ h tk E' hlt hv hJ htk F₁ N₁) (fun _ s₃ h₃ => wpAny_mono h₃ (fun f s₄ h₄ => h₄.toF off fun m hm => ⟨rfl, hm⟩) fun _ _ e => e) fun _ _ e => e
  · rintro h tk m' news' htk ⟨rfl, hJ⟩ F₁ N₁
    exact done h tk m' htk hJ F₁ N₁
end
end Mine
end SForT
section SCompW
open PySem PySem.W PyProof.Rows PySem.Calls
set_option Elab.async false
set_option maxRecDepth 100000
namespace Mine
section
variable {prog : Program} {w : World} {A : Around} {E : Value → Shared → Prop} {s : Shared} {h₀ : Heap} {L : Addr} {m : PySem.Str → Option Value} {env : Env} {news : List (Addr × Obj)}
/-- a comprehension whose iterator stands -/
inductive CompAt (prog : Program) (w : World) (A : Around) (h₀ : Heap) (L : Addr) (m : PySem.Str → Option Value) (env : Env) (elt : Expr) (x : PySem.Str) (scope : Scope) (cl : List (PySem.Str × Addr)) (Fin : Shared → List Value → List (Addr × Obj) → Prop) (it : Value) (s₂ : Shared) : Prop
  | mk (I : Addr) (fp : List Addr) (n : Nat) (P : Nat → Value → Prop) (St : Nat → Heap → Prop) (S : List (Addr × Obj) → Prop) (news : List (Addr × Obj))
    (c0 : it = .ref I)
    (c1 : Walks prog w A I fp [I] n P St)
    (c2 : n ≤ sizeLine)
    (c3 : (∀ i h, St i h → ∃ o, h.get? I = some o))
    (c4 : (∀ i (h h' : Heap) (o : Obj) (nw : List (Addr × Obj)), St i h → h.get? I = some o → h'.get? I = some o → (∀ b o, h₀.get? b = some o → h'.get? b = some o) → News h₀ L h' nw → S nw → St i h'))
    (c5 : St 0 s₂.heap)
    (c6 : (∀ b ∈ fp, b < s₂.heap.objs.size))
    (c7 : Fr h₀ L s₂.heap m)
    (c8 : News h₀ L s₂.heap news)
    (c9 : L ≠ I)
    (c10 : h₀.get? I = none)
    (c11 : (∀ p ∈ news, p.1 ≠ I))
    (c12 : S news)
    (c13 : LCg.CompRest prog w A h₀ L m env elt x scope cl s₂ S P (Fin s₂) n 0 [] news) : CompAt prog w A h₀ L m env elt x scope cl Fin it s₂
/-- what a comprehension wants of its source -/
def CSrc (prog : Program) (w : World) (A : Around) (E : Value → Shared → Prop) (h₀ : Heap) (L : Addr) (m : PySem.Str → Option Value) (env : Env) (elt : Expr) (x : PySem.Str) (scope : Scope) (cl : List (PySem.Str × Addr)) (Fin : Shared → List Value → List (Addr × Obj) → Prop) (xv : Value) (s₁ : Shared) : Prop :=
  wpAny (model prog w) A (pyIter xv) (fun it s₂ => CompAt prog w A h₀ L m env elt x scope cl Fin it s₂) E s₁
theorem comp_w {elt iter : Expr} {x : PySem.Str} {px : Pos} {scope : Scope} {cl : List (PySem.Str × Addr)} {pos : Pos} {Q : Value → Shared → Prop} (_F₀ : Fr h₀ L s.heap m)
    (hclos : closureFor scope env = pure cl) (hcell : ∀ y ∈ scope.names, y.2 ≠ .cell) (hkind : scope.kind = .function)
    (hnames : ∀ y ∈ scope.names, y.2 = .local → scope.names.lookup y.1 = some .local) (hx : scope.names.lookup x = some .local)
    (hs : ∀ x, foldedSetIterable iter env x = pure x)
    (h : wpAny (model prog w) A (eval iter env) (CSrc prog w A E h₀ L m env elt x scope cl (fun s₂ => LCg.FinE h₀ L m s₂ Q)) E s) :
    wpAny (model prog w) A (eval (.ListComp elt [⟨.Name x px, iter, [], 0⟩] scope pos) env) Q E s := by
  rw [eval_ListComp]
  refine wpAny_comprehension_free (use := none) rfl hs hclos hkind hnames (wpAny_mono h (fun xv s₁ h₁ => wpAny_mono h₁ (fun it s₂ h₂ => ?_) fun _ _ e => e) fun _ _ e => e)
  obtain ⟨I, fp, n, P, St, S, news, rfl, W, hsz, hIo, hst, h0, hfp, F, N, hLI, hI0, off, hS, R⟩ := h₂
  refine LCg.block_U W hsz hIo hst hcell hkind hx h0 hfp F N hLI hI0 off hS R ?_
  intro D C h tk m' ys news' F' N' o1 hn hC₀ hD₀ hCL hDL hCD offC fin
  exact ⟨m', hn, fun h'' hs'' => fin D h'' tk (F'.change hs'' hCL hC₀) (PySem.W.kas_news N' hs'' (head_off hCD offC)) o1⟩
/-- a comprehension that is assigned -/
theorem comp_wA {elt iter : Expr} {x y : PySem.Str} {px py : Pos} {scope : Scope} {cl : List (PySem.Str × Addr)} {pos spos : Pos} {Q : Flow → Shared → Prop} (_F₀ : Fr h₀ L s.heap m) (hLe : env.locals = L)
    (hsw : swapsWith (.ListComp elt [⟨.Name x px, iter, [], 0⟩] scope pos) (some (.Name y py)) spos.line env = pure true)
    (hclos : closureFor scope env = pure cl) (hcell : ∀ y ∈ scope.names, y.2 ≠ .cell) (hkind : scope.kind = .function)
    (hnames : ∀ y ∈ scope.names, y.2 = .local → scope.names.lookup y.1 = some .local) (hx : scope.names.lookup x = some .local)
    (hy : env.kindOf y = some .local) (hp : (env.scope.kind == .class || (env.scope.kind == .module && env.locals != env.globals)) = false)
    (hs : ∀ x, foldedSetIterable iter env x = pure x)
    (h : wpAny (model prog w) A (eval iter env) (CSrc prog w A E h₀ L m env elt x scope cl (fun s₂ => LCg.FinA h₀ L m s₂ y Q)) E s) :
    wpAny (model prog w) A (exec (.Assign [.Name y py] (.ListComp elt [⟨.Name x px, iter, [], 0⟩] scope pos) spos) env) Q E s := by
  subst hLe
  rw [exec_Assign_Name_used _ _ _ _ hsw]
  refine wpAny_bind (wpAny_standAt (wpAny_bind ?_))
  show wpAny _ A (do let _ ← comprehension (.ListComp elt [⟨.Name x px, iter, [], 0⟩] scope pos) scope env _ (newList []) false (eval iter env) (some (assign (.Name y py) env))) _ _ s
  refine wpAny_bind (wpAny_mono (wpAny_comprehension_free (use := some (assign (.Name y py) env)) (Q := fun _ s' => Q .next s') rfl hs hclos hkind hnames
    (wpAny_mono h (fun xv s₁ h₁ => wpAny_mono h₁ (fun it s₂ h₂ => ?_) fun _ _ e => e) fun _ _ e => e)) (fun _ s' hq => wpAny_pure (wpAny_pure hq)) fun _ _ e => e)
  obtain ⟨I, fp, n, P, St, S, news, rfl, W, hsz, hIo, hst, h0, hfp, F, N, hLI, hI0, off, hS, R⟩ := h₂
  refine LCg.block_U W hsz hIo hst hcell hkind hx h0 hfp F N hLI hI0 off hS R ?_
  intro D C h tk m' ys news' F' N' o1 hn hC₀ hD₀ hCL hDL hCD offC fin
  show wpAny _ A (assign (.Name y py) env (.ref D)) _ _ _
  refine wpAny_assign_Name (wpAny_storeName_local hy F'.ns (fun h₂ hn₂ hs₂ => ?_) hp)
  exact ⟨m', hn.sameBut hs₂ hCL, fun h'' hs'' => fin D h'' _ ((F'.set hn₂ hs₂).change hs'' hCL hC₀) (PySem.W.kas_news (N'.set hs₂) hs'' (head_off hCD offC)) o1⟩
/-- the turns by what holds between them -/
theorem rest_inv {elt : Expr} {x : PySem.Str} {scope : Scope} {cl : List (PySem.Str × Addr)} {s₂ : Shared} {S : List (Addr × Obj) → Prop} {P : Nat → Value → Prop} {Fin : List Value → List (Addr × Obj) → Prop} {n : Nat} (J : Nat → List Value → List (Addr × Obj) → Prop) (hJS : ∀ i ys nw, J i ys nw → S nw) (hj : J 0 [] news)
    (turn : ∀ i ys nw v I oI C oC D m₂ h tk (E' : Value → Shared → Prop), i < n → J i ys nw → P i v → LCg.NsObj oC m₂ → m₂ x = some v → Fr h₀ L h m → News h₀ L h ((I, oI) :: (C, oC) :: (D, LCg.lst ys) :: nw) → LCg.Off3 I C D nw → ((@Ne Nat I C) ∧ (@Ne Nat I D) ∧ (@Ne Nat C D)) →
      wpAny (model prog w) A (eval elt (compEnvC scope cl C env)) (LCg.CompEnd h₀ L m { s₂ with heap := h, toks := tk } I oI C oC D (LCg.lst ys) (fun _ => True) (fun y nw' => J (i + 1) (ys ++ [y]) nw')) E' { s₂ with heap := h, toks := tk })
    (fin : ∀ ys nw, J n ys nw → Fin ys nw) : LCg.CompRest prog w A h₀ L m env elt x scope cl s₂ S P Fin n 0 [] news := by
  have key : ∀ k i ys nw, i + k = n → J i ys nw → LCg.CompRest prog w A h₀ L m env elt x scope cl s₂ S P Fin k i ys nw := by
    intro k
    induction k with
    | zero =>
      intro i ys nw hi hj
      have : i = n := by omega
      subst this
      exact LCg.CompRest.zero (fin ys nw hj)
    | succ k ih =>
      intro i ys nw hi hj
      refine LCg.CompRest.succ fun v I oI C oC D m₂ h tk E' hP hO hm F N off ne => ?_
      refine wpAny_mono (turn i ys nw v I oI C oC D m₂ h tk E' (by omega) hj hP hO hm F N off ne) (fun y s' hy => ?_) fun _ _ e => e
      obtain ⟨h', tk', nw', e, F', N', off', _, hj'⟩ := hy
      exact ⟨h', tk', nw', e, F', N', off', hJS _ _ _ hj', ih (i + 1) _ _ (by omega) hj'⟩
  exact key n 0 [] news (by omega) hj
theorem compAt_list {elt : Expr} {x : PySem.Str} {scope : Scope} {cl : List (PySem.Str × Addr)} {Fin : Shared → List Value → List (Addr × Obj) → Prop} {l : Addr} {vs : List Value} {nn : Nat} (J : Nat → List Value → List (Addr × Obj) → Prop) (hh : A.handled = none) (F : Fr h₀ L s.heap m) (N : News h₀ L s.heap news) (hm : (l, listOf vs.toArray nn) ∈ news) (hsz : vs.length ≤ sizeLine) (hj : J 0 [] news)
    (turn : ∀ i ys nw v I oI C oC D m₂ h tk g (E' : Value → Shared → Prop), J i ys nw → (l, listOf vs.toArray nn) ∈ nw → vs[i]? = some v → LCg.NsObj oC m₂ → m₂ x = some v → Fr h₀ L h m → News h₀ L h ((I, oI) :: (C, oC) :: (D, LCg.lst ys) :: nw) → LCg.Off3 I C D nw → ((@Ne Nat I C) ∧ (@Ne Nat I D) ∧ (@Ne Nat C D)) →
      wpAny (model prog w) A (eval elt (compEnvC scope cl C env)) (LCg.CompEnd h₀ L m { s with heap := h, toks := tk } I oI C oC D (LCg.lst ys) (fun _ => True) (fun y nw' => J (i + 1) (ys ++ [y]) nw' ∧ (l, listOf vs.toArray nn) ∈ nw')) E' { (({ s with heap := g } : Shared)) with heap := h, toks := tk })
    (fin : ∀ g ys nw, J vs.length ys nw → Fin { s with heap := g } ys nw) :
    wpAny (model prog w) A (pyIter (.ref l)) (fun it s₂ => CompAt prog w A h₀ L m env elt x scope cl Fin it s₂) E s := by
  have hl : s.heap.IsList l vs.toArray := ⟨_, (N _ hm).1, rfl, _, rfl⟩
  have hlt : l < s.heap.objs.size := Heap.lt_size (N _ hm).1
  refine wpAny_pyIter_list hl ?_
  have W := Walks.list (prog := prog) (w := w) hh s.heap.objs.size l (Nat.ne_of_lt hlt) vs.toArray
  refine ⟨s.heap.objs.size, _, _, _, _, fun n => (l, listOf vs.toArray nn) ∈ n, news, rfl, W, by simpa using hsz, fun i h st => by obtain ⟨o, e, _⟩ := st.1; exact ⟨o, e⟩, fun i h h' o' nw st e e' hk Nw hS => ?_,
    ⟨⟨_, Heap.get?_push_size _ rfl, rfl, rfl⟩, hl.at fun o e => Heap.get?_push_of_some _ e⟩, fun b hb => ?_, F.push _, N.grown fun _ _ e => Heap.get?_push_of_some _ e, Nat.ne_of_lt F.ns.lt, next_is_new F, fun p hp => Nat.ne_of_lt (Heap.lt_size (N p hp).1), hm, ?_⟩
  · refine ⟨?_, ⟨_, (Nw _ hS).1, rfl, _, rfl⟩⟩
    obtain ⟨o2, ho2, r⟩ := st.1
    rw [ho2] at e; cases e
    exact ⟨_, e', r⟩
  · rw [Heap.size_push]
    rcases List.mem_cons.mp hb with rfl | hb
    · exact Nat.lt_succ_self _
    · rw [List.mem_singleton.mp hb]; exact Nat.lt_succ_of_lt hlt
  · refine rest_inv (fun i ys nw => J i ys nw ∧ (l, listOf vs.toArray nn) ∈ nw) (fun _ _ _ x => x.2) ⟨hj, hm⟩ ?_ ?_
    · rintro i ys nw v I oI C oC D m₂ h tk E' hi ⟨hJ, hS⟩ hP hO hmx F₁ N₁ off ne
      exact turn i ys nw v I oI C oC D m₂ h tk _ E' hJ hS (by simpa using hP) hO hmx F₁ N₁ off ne
    · rintro ys nw ⟨hJ, _⟩
      exact fin _ ys nw (by simpa using hJ)
theorem compAt_range {elt : Expr} {x : PySem.Str} {scope : Scope} {cl : List (PySem.Str × Addr)} {Fin : Shared → List Value → List (Addr × Obj) → Prop} {r : Addr} {a₀ b₀ : Int} {t₀ u₀ v₀ : Tok} {n : Nat} (J : Nat → List Value → List (Addr × Obj) → Prop) (hh : A.handled = none) (hr : IsRange s.heap r a₀ b₀ 1 t₀ u₀ v₀) (hsmall : Builtin.Range.small a₀ b₀ 1 = true) (hn : Builtin.Range.rangeSize a₀ b₀ 1 = (n : Int)) (F : Fr h₀ L s.heap m) (N : News h₀ L s.heap news) (hsz : n ≤ sizeLine) (hj : J 0 [] news)
    (turn : ∀ i ys nw t I oI C oC D m₂ h tk g (E' : Value → Shared → Prop), i < n → J i ys nw → LCg.NsObj oC m₂ → m₂ x = some (.int (a₀ + (i : Int)) t) → Fr h₀ L h m → News h₀ L h ((I, oI) :: (C, oC) :: (D, LCg.lst ys) :: nw) → LCg.Off3 I C D nw → ((@Ne Nat I C) ∧ (@Ne Nat I D) ∧ (@Ne Nat C D)) →
      wpAny (model prog w) A (eval elt (compEnvC scope cl C env)) (LCg.CompEnd h₀ L m { s with heap := h, toks := tk } I oI C oC D (LCg.lst ys) (fun _ => True) (fun y nw' => J (i + 1) (ys ++ [y]) nw')) E' { (({ s with heap := g } : Shared)) with heap := h, toks := tk })
    (fin : ∀ g ys nw, J n ys nw → Fin { s with heap := g } ys nw) :
    wpAny (model prog w) A (pyIter (.ref r)) (fun it s₂ => CompAt prog w A h₀ L m env elt x scope cl Fin it s₂) E s := by
  refine wpAny_pyIter_range hr hsmall ?_
  have W := LCg.range_walks (prog := prog) (w := w) (I := s.heap.objs.size) hh a₀ n
  refine ⟨s.heap.objs.size, _, _, _, _, fun _ => True, news, rfl, W, hsz, fun i h st => ⟨_, st⟩, fun i h h' o nw st e e' hk Nw _ => LCg.range_st (h₀ := h₀) (L := L) i h h' o nw st e e' hk Nw trivial,
    (by show IsRangeIter _ _ _ _ _; rw [hn]; simpa using Heap.get?_push_size _ rfl), fun b hb => by rw [List.mem_singleton.mp hb, Heap.size_push]; exact Nat.lt_succ_self _, F.push _, N.grown fun _ _ e => Heap.get?_push_of_some _ e, Nat.ne_of_lt F.ns.lt, next_is_new F, fun p hp => Nat.ne_of_lt (Heap.lt_size (N p hp).1), trivial, ?_⟩
  refine rest_inv J (fun _ _ _ _ => trivial) hj ?_ (fun ys nw => fin _ ys nw)
  rintro i ys nw v I oI C oC D m₂ h tk E' hi hJ ⟨t, rfl⟩ hO hmx F₁ N₁ off ne
  exact turn i ys nw t I oI C oC D m₂ h tk _ E' hi hJ hO hmx F₁ N₁ off ne
end
end Mine
namespace Mine
section
variable {prog : Program} {w : World} {A : Around} {E : Value → Shared → Prop} {s : Shared} {h₀ : Heap} {L : Addr} {m : PySem.Str → Option Value} {env : Env} {news : List (Addr × Obj)}
/-- the ledger stands as it stood: what a turn's element leaves -/
def KEnd (h₀ : Heap) (L : Addr) (m : PySem.Str → Option Value) (s : Shared) (I : Addr) (oI : Obj) (C : Addr) (oC : Obj) (D : Addr) (ys : List Value) (news : List (Addr × Obj)) (R : Value → Prop) (y : Value) (s' : Shared) : Prop :=
  ∃ h' tk, s' = { s with heap := h', toks := tk } ∧ Fr h₀ L h' m ∧ News h₀ L h' ((I, oI) :: (C, oC) :: (D, LCg.lst ys) :: news) ∧ R y
end
end Mine
end SCompW
section SWj2
open PySem PySem.W PyProof.Rows PySem.Calls
set_option Elab.async false
set_option maxRecDepth 100000
set_option maxHeartbeats 8000000
set_option pp.maxSteps 400
set_option autoImplicit false
namespace Mine
section
variable {prog : Program} {w : World} {A : Around} {env : Env} {h₀ : Heap} {s : Shared} {E : Value → Shared → Prop} {news : List (Addr × Obj)} {m : PySem.Str → Option Value}
/-- where a while loop stands, the ledger told too -/
def WStJ (env : Env) (h₀ : Heap) (Inv : Nat → (PySem.Str → Option Value) → List (Addr × Obj) → Prop) (s : Shared) (n : Nat) (s' : Shared) : Prop :=
  ∃ h' tk m' news', s' = { s with heap := h', toks := tk } ∧ 1 ≤ tk ∧ Inv n m' news' ∧ Fr h₀ env.locals h' m' ∧ News h₀ env.locals h' news'
def WTurnJ (env : Env) (h₀ : Heap) (Inv : Nat → (PySem.Str → Option Value) → List (Addr × Obj) → Prop) (s : Shared) (n : Nat) (Q : Flow → Shared → Prop) (f : Flow) (s' : Shared) : Prop := match f with
  | .ret v => Q (.ret v) s'
  | .brk => Q .next s'
  | _ => ∃ k, k < n ∧ WStJ env h₀ Inv s k s'
theorem whileJ {Inv : Nat → (PySem.Str → Option Value) → List (Addr × Obj) → Prop} {Q : Flow → Shared → Prop} {test : Expr} {body : List Stmt} {pos : Pos} {n : Nat} (F : Fr h₀ env.locals s.heap m) (N : News h₀ env.locals s.heap news) (ht : 1 ≤ s.toks) (hi : Inv n m news)
    (turn : ∀ n h tk m news, 1 ≤ tk → Inv n m news → Fr h₀ env.locals h m → News h₀ env.locals h news → ∀ E' : Value → Shared → Prop,
      wpAny (model prog w) A (isTrue test env (eval test env)) (fun b s₂ => if b = true then wpAny (model prog w) A (execs body env) (WTurnJ env h₀ Inv s n Q) E' s₂ else Q .next s₂) E' { s with heap := h, toks := tk }) :
    wpAny (model prog w) A (exec (.While test body [] pos) env) Q E s := by
  refine wpAny_While (codeAny_whileLoop (WStJ env h₀ Inv s) ?_ n ⟨s.heap, s.toks, m, news, rfl, ht, hi, F, N⟩)
  rintro n s' ⟨h', tk, m', news', rfl, htk, hi', F', N'⟩
  refine wpAny_mono (turn n h' tk m' news' htk hi' F' N' _) (fun b s₂ hb => ?_) fun _ _ e => e
  cases b with
  | true =>
    rw [if_pos rfl] at hb ⊢
    refine wpAny_mono hb (fun f s₃ hf => ?_) fun _ _ e => e
    cases f <;> exact hf
  | false =>
    rw [if_neg (by simp)] at hb ⊢
    exact wpAny_execs_nil hb
end
end Mine
namespace Mine
/-- a source, and a token is there -/
def FSrcT (prog : Program) (w : World) (A : Around) (E : Value → Shared → Prop) (h₀ : Heap) (env : Env) (target : Expr) (body : List Stmt) (Q : Flow → Shared → Prop) (xv : Value) (s₁ : Shared) : Prop := 1 ≤ s₁.toks → FSrc prog w A E h₀ env target body Q xv s₁
theorem forWT {prog : Program} {w : World} {A : Around} {E : Value → Shared → Prop} {s : Shared} {h₀ : Heap} {m : PySem.Str → Option Value} {env : Env} {target iter : Expr} {body : List Stmt} {pos : Pos} {Q : Flow → Shared → Prop} (_F₀ : Fr h₀ env.locals s.heap m) (ht : 1 ≤ s.toks) (hs : ∀ x, foldedSetIterable iter env x = pure x)
    (h : wpAny (model prog w) A (eval iter env) (FSrcT prog w A E h₀ env target body Q) E s) :
    wpAny (model prog w) A (exec (.For target iter body [] pos) env) Q E s :=
  forW _F₀ hs (wpAny_with_toks (n := 1) ht (wpAny_mono h (fun _ _ h => h) fun _ _ e _ => e))
end Mine
namespace Mine
def nthSt : List Stmt → Nat → Option Stmt
  | [], _ => none
  | x :: _, 0 => some x
  | _ :: r, n + 1 => nthSt r n
/-- a statement of the law -/
def lawSt (P : Program) (n : Nat) : Option (Scope × Stmt) := match P.main.body.getLast? with
  | some (.FunctionDef _ _ body _ _ _ scope _ _ _) => (match nthSt body n with | some st => some (scope, st) | none => none)
  | _ => none
/-- a map that tells these -/
def chain : List (PySem.Str × Value) → (PySem.Str → Option Value) → (PySem.Str → Option Value)
  | [], m => m
  | p :: r, m => fun y => if y = p.1 then some p.2 else chain r m y
theorem chain_eq : ∀ {l : List (PySem.Str × Value)} {m : PySem.Str → Option Value}, (∀ p ∈ l, m p.1 = some p.2) → chain l m = m
  | [], _, _ => rfl
  | p :: r, m, h => by
    funext y
    show (if y = p.1 then some p.2 else chain r m y) = m y
    rw [chain_eq fun q hq => h q (.tail _ hq)]
    by_cases e : y = p.1
    · rw [if_pos e, e, h p (.head _)]
    · rw [if_neg e]
theorem Fr_chain {h₀ h : Heap} {L : Addr} {m : PySem.Str → Option Value} (l : List (PySem.Str × Value)) (F : Fr h₀ L h m) (hl : ∀ p ∈ l, m p.1 = some p.2) : Fr h₀ L h (chain l m) := by rw [chain_eq hl]; exact F
end Mine
end SWj2
section SSlc
open PySem PySem.W PyProof.Rows PySem.Calls
set_option Elab.async false
set_option maxRecDepth 100000
set_option autoImplicit false
namespace Mine
section
variable {prog : Program} {w : World} {A : Around} {E : Value → Shared → Prop} {s : Shared} {h₀ : Heap} {L l : Addr} {m : PySem.Str → Option Value} {news : List (Addr × Obj)} {vs : List Value} {n : Nat}
theorem drop_pick (vs : List Value) (a : Nat) : (slicePick vs.toArray (some (a : Int)) none none).toList = vs.drop a := by
  have e : sliceBounds (some (a : Int)) none none vs.toArray.size = (((min a vs.toArray.size : Nat) : Int), ((vs.toArray.size : Nat) : Int), 1) := by
    simp only [sliceBounds, Option.getD_none, show (1 : Int) > 0 by decide, if_true, if_neg (show ¬ ((a : Int) < 0) by omega)]
    congr 1
    omega
  rw [kmk_pick_nat _ e]
  show (vs.drop (min a vs.toArray.size)).take (vs.toArray.size - min a vs.toArray.size) = _
  rw [List.size_toArray, kmk_drop_min, List.take_of_length_le (by rw [List.length_drop]; omega)]
theorem take_pick (vs : List Value) (b : Nat) : (slicePick vs.toArray none (some (b : Int)) none).toList = vs.take b := by
  have e : sliceBounds none (some (b : Int)) none vs.toArray.size = (((0 : Nat) : Int), ((min b vs.toArray.size : Nat) : Int), 1) := by
    simp only [sliceBounds, Option.getD_none, show (1 : Int) > 0 by decide, if_true, if_neg (show ¬ ((b : Int) < 0) by omega)]
    congr 1
    congr 1
    omega
  rw [kmk_pick_nat _ e]
  show (vs.drop 0).take (min b vs.toArray.size - 0) = _
  rw [List.drop_zero, Nat.sub_zero, List.size_toArray, kmk_take_min]
/-- l[a:] -/
theorem dropW {value slice : PySem.Expr} {a : Nat} {x : Int} {t : Tok} {Q : Value → Shared → Prop} (F : Fr h₀ L s.heap m) (N : News h₀ L s.heap news) (hm : (l, listOf vs.toArray n) ∈ news) (hx : x = (a : Int)) (hz : vs.length ≤ 1000)
    (h : ∀ D h', Fr h₀ L h' m → News h₀ L h' ((D, listOf (vs.drop a).toArray 0) :: news) → (∀ p ∈ news, p.1 < D) → Q (.ref D) { s with heap := h' })
    (hs : subscripted slice false (.ref l) (.ref s.heap.objs.size) = operate [.ref s.heap.objs.size, .ref l] (getItem (.ref l) (.ref s.heap.objs.size)) := by with_unfolding_all rfl) (ht : ∀ r, letTemporaryGo value (.ref l) r = pure () := by intro _; with_unfolding_all rfl) :
    wpAny (model prog w) A (subscriptTail value slice (.ref l) (.ref s.heap.objs.size)) Q E { s with heap := s.heap.push { cls := .type "slice", data := .fields #[.int x t, .none, .none] } } := by
  subst hx
  exact kmk_slice_lit F N ⟨_, (N _ hm).1, rfl, _, rfl⟩ (by constructor) (by constructor) (drop_pick vs a) h hs ht (by rw [List.size_toArray, sizeLine_eq]; omega)
/-- l[:b] -/
theorem takeW {value slice : PySem.Expr} {b : Nat} {t : Tok} {Q : Value → Shared → Prop} (F : Fr h₀ L s.heap m) (N : News h₀ L s.heap news) (hm : (l, listOf vs.toArray n) ∈ news) (hz : vs.length ≤ 1000)
    (h : ∀ D h', Fr h₀ L h' m → News h₀ L h' ((D, listOf (vs.take b).toArray 0) :: news) → (∀ p ∈ news, p.1 < D) → Q (.ref D) { s with heap := h' })
    (hs : subscripted slice false (.ref l) (.ref s.heap.objs.size) = operate [.ref s.heap.objs.size, .ref l] (getItem (.ref l) (.ref s.heap.objs.size)) := by with_unfolding_all rfl) (ht : ∀ r, letTemporaryGo value (.ref l) r = pure () := by intro _; with_unfolding_all rfl) :
    wpAny (model prog w) A (subscriptTail value slice (.ref l) (.ref s.heap.objs.size)) Q E { s with heap := s.heap.push { cls := .type "slice", data := .fields #[.none, .int (b : Int) t, .none] } } := by
  exact kmk_slice_lit F N ⟨_, (N _ hm).1, rfl, _, rfl⟩ (by constructor) (by constructor) (take_pick vs b) h hs ht (by rw [List.size_toArray, sizeLine_eq]; omega)
end
end Mine
namespace Mine
section
variable {prog : Program} {w : World} {A : Around} {E : Value → Shared → Prop} {s : Shared} {h₀ : Heap} {L : Addr} {m : PySem.Str → Option Value} {env : Env} {news : List (Addr × Obj)}
/-- the turns of a tested comprehension by what holds between them -/
theorem restT_inv {ct elt : Expr} {x : PySem.Str} {scope : Scope} {cl : List (PySem.Str × Addr)} {s₂ : Shared} {S : List (Addr × Obj) → Prop} {P : Nat → Value → Prop} {Fin : List Value → List (Addr × Obj) → Prop} {n : Nat} (J : Nat → List Value → List (Addr × Obj) → Prop) (hJS : ∀ i ys nw, J i ys nw → S nw) (hj : J 0 [] news)
    (turn : ∀ i ys nw v I oI C oC D m₂ h tk (E' : Value → Shared → Prop), i < n → J i ys nw → P i v → LCg.NsObj oC m₂ → m₂ x = some v → Fr h₀ L h m → News h₀ L h ((I, oI) :: (C, oC) :: (D, LCg.lst ys) :: nw) → LCg.Off3 I C D nw → ((@Ne Nat I C) ∧ (@Ne Nat I D) ∧ (@Ne Nat C D)) →
      wpAny (model prog w) A (isTrue ct (compEnvC scope cl C env) (eval ct (compEnvC scope cl C env))) (fun ok s' => if ok = true then
        wpAny (model prog w) A (eval elt (compEnvC scope cl C env)) (LCg.CompEnd h₀ L m { s₂ with heap := h, toks := tk } I oI C oC D (LCg.lst ys) (fun _ => True) (fun y nw' => J (i + 1) (ys ++ [y]) nw')) E' s'
        else LCg.CompEnd h₀ L m { s₂ with heap := h, toks := tk } I oI C oC D (LCg.lst ys) (fun _ => True) (fun _ nw' => J (i + 1) ys nw') Value.none s') E' { s₂ with heap := h, toks := tk })
    (fin : ∀ ys nw, J n ys nw → Fin ys nw) : LCt.CompRestT prog w A h₀ L m env ct elt x scope cl s₂ S P Fin n 0 [] news := by
  have key : ∀ k i ys nw, i + k = n → J i ys nw → LCt.CompRestT prog w A h₀ L m env ct elt x scope cl s₂ S P Fin k i ys nw := by
    intro k
    induction k with
    | zero =>
      intro i ys nw hi hj
      have : i = n := by omega
      subst this
      exact LCt.CompRestT.zero (fin ys nw hj)
    | succ k ih =>
      intro i ys nw hi hj
      refine LCt.CompRestT.succ fun v I oI C oC D m₂ h tk E' hP hO hm F N off ne => ?_
      refine wpAny_mono (turn i ys nw v I oI C oC D m₂ h tk E' (by omega) hj hP hO hm F N off ne) (fun ok s' hy => ?_) fun _ _ e => e
      cases ok with
      | true =>
        rw [if_pos rfl] at hy ⊢
        refine wpAny_mono hy (fun y s' hy => ?_) fun _ _ e => e
        obtain ⟨h', tk', nw', e, F', N', off', _, hj'⟩ := hy
        exact ⟨h', tk', nw', e, F', N', off', hJS _ _ _ hj', ih (i + 1) _ _ (by omega) hj'⟩
      | false =>
        rw [if_neg (by decide)] at hy ⊢
        obtain ⟨h', tk', nw', e, F', N', off', _, hj'⟩ := hy
        exact ⟨h', tk', nw', e, F', N', off', hJS _ _ _ hj', ih (i + 1) _ _ (by omega) hj'⟩
  exact key n 0 [] news (by omega) hj
end
end Mine
end SSlc
section SComp3
open PySem PySem.W PyProof.Rows PySem.Calls
set_option Elab.async false
set_option maxRecDepth 100000
namespace Mine
section
variable {prog : Program} {w : World} {A : Around} {E : Value → Shared → Prop} {s : Shared} {R : Result → Shared → Prop}
end
end Mine
namespace Mine
section
variable {prog : Program} {w : World} {A : Around} {E : Value → Shared → Prop} {s : Shared} {h₀ : Heap} {L C D : Addr} {m : PySem.Str → Option Value} {env : Env}
/-- inside a comprehension: its frame C, its list D, and what stands beside -/
inductive CS (h₀ : Heap) (L : Addr) (m : PySem.Str → Option Value) (s : Shared) (C D : Addr) (ys : List Value) (m₂ : PySem.Str → Option Value) (its : List (Addr × Obj)) (s' : Shared) : Prop
  | mk (h : Heap) (tk : Nat) (oC : Obj)
    (c0 : s' = { s with heap := h, toks := tk })
    (c1 : Fr h₀ L h m)
    (c2 : News h₀ L h ((C, oC) :: (D, LCg.lst ys) :: its))
    (c3 : LCg.NsObj oC m₂)
    (c4 : C ≠ D)
    (c5 : ∀ p ∈ its, p.1 ≠ C ∧ p.1 ≠ D) : CS h₀ L m s C D ys m₂ its s'
theorem news_put {a : Addr} {o o' : Obj} {h h' : Heap} {pre rest : List (Addr × Obj)} (N : News h₀ L h (pre ++ (a, o) :: rest)) (hs : Heap.ExtBut a h h') (ho : h'.get? a = some o') (off : ∀ p ∈ pre ++ rest, p.1 ≠ a) : News h₀ L h' (pre ++ (a, o') :: rest) := by
  intro p hp
  have za := N (a, o) (by simp)
  rcases List.mem_append.mp hp with hp | hp
  · have z := N p (List.mem_append_left _ hp)
    exact ⟨hs _ _ (off p (List.mem_append_left _ hp)) z.1, z.2⟩
  · rcases List.mem_cons.mp hp with rfl | hp
    · exact ⟨ho, za.2⟩
    · have z := N p (List.mem_append_right _ (.tail _ hp))
      exact ⟨hs _ _ (off p (List.mem_append_right _ hp)) z.1, z.2⟩
theorem fr_put {a : Addr} {h h' : Heap} (F : Fr h₀ L h m) (hs : Heap.ExtBut a h h') (ha : a ≠ L) (h0 : h₀.get? a = none) : Fr h₀ L h' m :=
  ⟨F.ns.at' fun o e => hs _ _ (Ne.symm ha) e, fun b o e => hs _ _ (fun q => by rw [q, h0] at e; cases e) (F.keep b o e), F.above⟩
theorem cs_assign {ys : List Value} {m₂ : PySem.Str → Option Value} {its : List (Addr × Obj)} {y : PySem.Str} {py : Pos} {v : Value} {s' : Shared} (c : CS h₀ L m s C D ys m₂ its s') (hC : env.locals = C) (hy : env.kindOf y = some .local)
    (hp : (env.scope.kind == .class || (env.scope.kind == .module && env.locals != env.globals)) = false) :
    wpAny (model prog w) A (assign (.Name y py) env v) (fun _ s'' => CS h₀ L m s C D ys (fun z => if z = y then some v else m₂ z) its s'') E s' := by
  subst hC
  obtain ⟨h, tk, oC, rfl, F, N, hC, hCD, hoff⟩ := c
  have zC := N (env.locals, oC) (by simp)
  refine wpAny_assign_Name (wpAny_storeName_local hy (hC.ns zC.1) (fun h' hn hs => ?_) hp)
  obtain ⟨oC', ho', hC'⟩ := LCg.ns_obj hn
  exact ⟨h', _, oC', rfl, fr_put F hs.extBut zC.2.1 zC.2.2, news_put (pre := []) N hs.extBut ho' (fun p hp => by
    rcases List.mem_cons.mp hp with rfl | hp
    · exact Ne.symm hCD
    · exact (hoff p hp).1), hC', hCD, hoff⟩
theorem cs_append {ys : List Value} {m₂ : PySem.Str → Option Value} {its : List (Addr × Obj)} {v : Value} {s' : Shared} (c : CS h₀ L m s C D ys m₂ its s') (hz : ys.length ≤ 100000) :
    wpAny (model prog w) A (call (.builtin "list.append") [.ref D, v]) (fun _ s'' => CS h₀ L m s C D (ys ++ [v]) m₂ its s'') E s' := by
  obtain ⟨h, tk, oC, rfl, F, N, hC, hCD, hoff⟩ := c
  have zD := N (D, LCg.lst ys) (by simp)
  refine append_at (hsz := by show ys.toArray.size ≤ sizeLine; rw [List.size_toArray, sizeLine_eq]; omega) zD.1 fun h' hs hD => ?_
  exact ⟨h', tk, oC, rfl, fr_put F hs.extBut zD.2.1 zD.2.2, news_put (pre := [(C, oC)]) N hs.extBut (hD.trans (congrArg some (LCg.lst_snoc ys v))) (fun p hp => by
    rcases List.mem_cons.mp hp with rfl | hp
    · exact hCD
    · exact (hoff p hp).2), hC, hCD, hoff⟩
end
end Mine
namespace Mine
def AreInts (ys : List Value) (ns : List Int) : Prop := ∃ ps : List (Int × Tok), ys = ps.map (fun p => .int p.1 p.2) ∧ ps.map (·.1) = ns
theorem AreInts.nil : AreInts [] [] := ⟨[], rfl, rfl⟩
theorem AreInts.snoc {ys : List Value} {ns : List Int} (h : AreInts ys ns) (n : Int) (t : Tok) : AreInts (ys ++ [.int n t]) (ns ++ [n]) := by
  obtain ⟨ps, rfl, rfl⟩ := h
  exact ⟨ps ++ [(n, t)], by simp, by simp⟩
theorem AreInts.length {ys : List Value} {ns : List Int} (h : AreInts ys ns) : ys.length = ns.length := by
  obtain ⟨ps, rfl, rfl⟩ := h; simp
theorem AreInts.ints {ys : List Value} {ns : List Int} (h : AreInts ys ns) : IntsAre ys ns := by
  obtain ⟨ps, rfl, rfl⟩ := h
  induction ps with
  | nil => exact .nil
  | cons p ps ih => exact .cons p.1 p.2 ih
theorem AreInts.at {ys : List Value} {ns : List Int} (h : AreInts ys ns) {i : Nat} {n : Int} (hn : ns[i]? = some n) : ∃ t, ys[i]? = some (.int n t) := by
  obtain ⟨ps, rfl, rfl⟩ := h
  rw [List.getElem?_map] at hn ⊢
  cases hp : ps[i]? with
  | none => rw [hp] at hn; cases hn
  | some p => rw [hp] at hn; cases hn; exact ⟨p.2, rfl⟩
section
variable {prog : Program} {w : World} {A : Around} {E : Value → Shared → Prop} {s : Shared} {h₀ : Heap} {L C D : Addr} {m : PySem.Str → Option Value} {env : Env}
/-- the state, the list's ints, and two ints of the frame -/
inductive C3 (h₀ : Heap) (L : Addr) (m : PySem.Str → Option Value) (s : Shared) (C D : Addr) (K : (PySem.Str → Option Value) → Prop) (ns : List Int) (its : List (Addr × Obj)) (s' : Shared) : Prop
  | mk (ys : List Value) (m₂ : PySem.Str → Option Value)
    (c0 : AreInts ys ns)
    (c1 : K m₂)
    (c2 : CS h₀ L m s C D ys m₂ its s') : C3 h₀ L m s C D K ns its s'
def Has (x : PySem.Str) (a : Int) (m₂ : PySem.Str → Option Value) : Prop := ∃ t, m₂ x = some (.int a t)
variable {elt : Expr} {gens : List Comprehension} {scope : Scope} {pos px : Pos} {x : PySem.Str} {i0 i1 tg : Expr} {d : Nat}
end
end Mine
namespace Mine
section
variable {prog : Program} {w : World} {A : Around} {E : Value → Shared → Prop} {s : Shared} {h₀ : Heap} {L : Addr} {m : PySem.Str → Option Value} {env : Env}
def tri (f : Int → Int → Int → Int) : List Int := (List.range 3).flatMap fun (a : Nat) => (List.range 3).flatMap fun (b : Nat) => (List.range 3).map fun (c : Nat) => f (a : Int) (b : Int) (c : Int)
inductive Src3 (h₀ : Heap) (L : Addr) (m : PySem.Str → Option Value) (f : Int → Int → Int → Int) (Q : Value → Shared → Prop) (xv : Value) (s₁ : Shared) : Prop
  | mk (r : Addr) (t u v : Tok) (news : List (Addr × Obj))
    (c0 : xv = .ref r)
    (c1 : IsRange s₁.heap r 0 3 1 t u v)
    (c2 : Fr h₀ L s₁.heap m)
    (c3 : News h₀ L s₁.heap news)
    (c4 : ∀ D h tk ys, AreInts ys (tri f) → Fr h₀ L h m → News h₀ L h ((D, LCg.lst ys) :: news) → (∀ p ∈ news, p.1 ≠ D) → Q (.ref D) { s₁ with heap := h, toks := tk }) : Src3 h₀ L m f Q xv s₁
end
end Mine
end SComp3
section SCompE
open PySem PySem.W PyProof.Rows PySem.Calls
set_option Elab.async false
set_option maxRecDepth 100000
set_option autoImplicit false
namespace Mine
section
variable {prog : Program} {w : World} {A : Around} {E : Value → Shared → Prop} {s : Shared} {h₀ : Heap} {L C D : Addr} {m : PySem.Str → Option Value} {env : Env}
/-- how an enumeration of a list stands -/
def EnSt (e it l : Addr) (vs : List Value) (i : Nat) (h : Heap) : Prop := (∃ old, IsEnum h e it i old) ∧ h.IsListIter it l i ∧ h.IsList l vs.toArray
inductive ES (h₀ : Heap) (L : Addr) (m : PySem.Str → Option Value) (s : Shared) (C D e it l : Addr) (vs : List Value) (news : List (Addr × Obj)) (i : Nat) (ys : List Value) (s' : Shared) : Prop
  | mk (m₂ : PySem.Str → Option Value) (oe oi : Obj)
    (c0 : CS h₀ L m s C D ys m₂ ((e, oe) :: (it, oi) :: news) s')
    (c1 : EnSt e it l vs i s'.heap) : ES h₀ L m s C D e it l vs news i ys s'
theorem cs_put2 {e it : Addr} {oe oi : Obj} {news : List (Addr × Obj)} {ys : List Value} {m₂ : PySem.Str → Option Value} {h h' : Heap} {tk tk' : Nat} (c : CS h₀ L m s C D ys m₂ ((e, oe) :: (it, oi) :: news) { s with heap := h, toks := tk }) (off : ∀ p ∈ news, p.1 ≠ e ∧ p.1 ≠ it)
    (hk : ∀ b o, b ∉ [e, it] → h.get? b = some o → h'.get? b = some o) (he : ∃ o, h'.get? e = some o) (hi : ∃ o, h'.get? it = some o) :
    ∃ oe' oi', CS h₀ L m s C D ys m₂ ((e, oe') :: (it, oi') :: news) { s with heap := h', toks := tk' } := by
  obtain ⟨h1, tk1, oC, e1, F, N, hC, hCD, hoff⟩ := c
  have eh : h1 = h := by injection e1 with a; exact a.symm
  subst eh
  obtain ⟨oe', he⟩ := he
  obtain ⟨oi', hi⟩ := hi
  have ze := N (e, oe) (by simp)
  have zi := N (it, oi) (by simp)
  have oe1 := hoff (e, oe) (by simp)
  have oi1 := hoff (it, oi) (by simp)
  refine ⟨oe', oi', h', tk', oC, rfl, ⟨F.ns.at' fun o x => hk _ _ ?_ x, fun b o x => hk b o ?_ (F.keep b o x), F.above⟩, fun p hp => ?_, hC, hCD, fun p hp => ?_⟩
  · intro hm
    rcases List.mem_cons.mp hm with q | hm
    · exact ze.2.1 q.symm
    · exact zi.2.1 (List.mem_singleton.mp hm).symm
  · intro hm
    rcases List.mem_cons.mp hm with q | hm
    · have := ze.2.2; rw [← q, x] at this; cases this
    · have := zi.2.2; rw [← List.mem_singleton.mp hm, x] at this; cases this
  · have keep : ∀ q : Addr × Obj, q ∈ (C, oC) :: (D, LCg.lst ys) :: (e, oe) :: (it, oi) :: news → q.1 ∉ [e, it] → h'.get? q.1 = some q.2 ∧ q.1 ≠ L ∧ h₀.get? q.1 = none := fun q hq hn => ⟨hk _ _ hn (N q hq).1, (N q hq).2⟩
    simp only [List.mem_cons] at hp
    rcases hp with rfl | rfl | rfl | rfl | hp
    · refine keep _ (by simp) ?_
      simp only [List.mem_cons, List.not_mem_nil, or_false, not_or]
      exact ⟨Ne.symm oe1.1, Ne.symm oi1.1⟩
    · refine keep _ (by simp) ?_
      simp only [List.mem_cons, List.not_mem_nil, or_false, not_or]
      exact ⟨Ne.symm oe1.2, Ne.symm oi1.2⟩
    · exact ⟨he, ze.2⟩
    · exact ⟨hi, zi.2⟩
    · refine keep p (by simp [hp]) ?_
      simp only [List.mem_cons, List.not_mem_nil, or_false, not_or]
      exact off p hp
  · simp only [List.mem_cons] at hp
    rcases hp with rfl | rfl | hp
    · exact oe1
    · exact oi1
    · exact hoff p (by simp [hp])
theorem enSt_of {e it l : Addr} {vs : List Value} {i : Nat} {ys ys' : List Value} {m₂ m₃ : PySem.Str → Option Value} {oe oi lo : Obj} {news : List (Addr × Obj)} {s1 s2 : Shared} (hl : (l, lo) ∈ news)
    (c : CS h₀ L m s C D ys m₂ ((e, oe) :: (it, oi) :: news) s1) (c' : CS h₀ L m s C D ys' m₃ ((e, oe) :: (it, oi) :: news) s2) (st : EnSt e it l vs i s1.heap) : EnSt e it l vs i s2.heap := by
  obtain ⟨h1, tk1, oC, rfl, F, N, hC, hCD, hoff⟩ := c
  obtain ⟨h2, tk2, oC2, rfl, F2, N2, hC2, hCD2, hoff2⟩ := c'
  obtain ⟨⟨old, he⟩, hi, hls⟩ := st
  have key : ∀ p : Addr × Obj, p ∈ (e, oe) :: (it, oi) :: news → ∀ o, h1.get? p.1 = some o → h2.get? p.1 = some o := fun p hp o ho => by
    rw [(N p (.tail _ (.tail _ hp))).1] at ho
    cases ho
    exact (N2 p (.tail _ (.tail _ hp))).1
  exact ⟨⟨old, key (e, oe) (.head _) _ he⟩, hi.at fun o x => key (it, oi) (.tail _ (.head _)) o x, hls.at fun o x => key (l, lo) (.tail _ (.tail _ hl)) o x⟩
end
end Mine
namespace Mine
section
variable {prog : Program} {w : World} {A : Around} {E : Value → Shared → Prop} {s : Shared} {h₀ : Heap} {L C D : Addr} {m : PySem.Str → Option Value} {env : Env}
theorem cs_heap {ys : List Value} {m₂ : PySem.Str → Option Value} {its : List (Addr × Obj)} {h h' : Heap} {tk tk' : Nat} (c : CS h₀ L m s C D ys m₂ its { s with heap := h, toks := tk }) (hk : ∀ b o, h.get? b = some o → h'.get? b = some o) : CS h₀ L m s C D ys m₂ its { s with heap := h', toks := tk' } := by
  obtain ⟨h1, tk1, oC, e1, F, N, hC, hCD, hoff⟩ := c
  have eh : h1 = h := by injection e1 with a; exact a.symm
  subst eh
  exact ⟨h', tk', oC, rfl, F.keeps hk, fun p hp => ⟨hk _ _ (N p hp).1, (N p hp).2⟩, hC, hCD, hoff⟩
theorem cs_drop2 {e it : Addr} {oe oi : Obj} {news : List (Addr × Obj)} {ys : List Value} {m₂ : PySem.Str → Option Value} {h h' : Heap} {tk tk' : Nat} (c : CS h₀ L m s C D ys m₂ ((e, oe) :: (it, oi) :: news) { s with heap := h, toks := tk }) (off : ∀ p ∈ news, p.1 ≠ e ∧ p.1 ≠ it)
    (hk : ∀ b o, b ∉ [e, it] → h.get? b = some o → h'.get? b = some o) : CS h₀ L m s C D ys m₂ news { s with heap := h', toks := tk' } := by
  obtain ⟨h1, tk1, oC, e1, F, N, hC, hCD, hoff⟩ := c
  have eh : h1 = h := by injection e1 with a; exact a.symm
  subst eh
  have ze := N (e, oe) (by simp)
  have zi := N (it, oi) (by simp)
  have oe1 := hoff (e, oe) (by simp)
  have oi1 := hoff (it, oi) (by simp)
  refine ⟨h', tk', oC, rfl, ⟨F.ns.at' fun o x => hk _ _ ?_ x, fun b o x => hk b o ?_ (F.keep b o x), F.above⟩, fun p hp => ?_, hC, hCD, fun p hp => hoff p (by simp [hp])⟩
  · intro hm
    rcases List.mem_cons.mp hm with q | hm
    · exact ze.2.1 q.symm
    · exact zi.2.1 (List.mem_singleton.mp hm).symm
  · intro hm
    rcases List.mem_cons.mp hm with q | hm
    · have := ze.2.2; rw [← q, x] at this; cases this
    · have := zi.2.2; rw [← List.mem_singleton.mp hm, x] at this; cases this
  · have keep : ∀ q : Addr × Obj, q ∈ (C, oC) :: (D, LCg.lst ys) :: (e, oe) :: (it, oi) :: news → q.1 ∉ [e, it] → h'.get? q.1 = some q.2 ∧ q.1 ≠ L ∧ h₀.get? q.1 = none := fun q hq hn => ⟨hk _ _ hn (N q hq).1, (N q hq).2⟩
    simp only [List.mem_cons] at hp
    rcases hp with rfl | rfl | hp
    · refine keep _ (by simp) ?_
      simp only [List.mem_cons, List.not_mem_nil, or_false, not_or]
      exact ⟨Ne.symm oe1.1, Ne.symm oi1.1⟩
    · refine keep _ (by simp) ?_
      simp only [List.mem_cons, List.not_mem_nil, or_false, not_or]
      exact ⟨Ne.symm oe1.2, Ne.symm oi1.2⟩
    · refine keep p (by simp [hp]) ?_
      simp only [List.mem_cons, List.not_mem_nil, or_false, not_or]
      exact off p hp
theorem en_loop {e it l : Addr} {vs : List Value} {ps : List Int} {nn : Nat} {news : List (Addr × Obj)} {x y : PySem.Str} {px py tp pos : Pos} {k : Nat} {elt iter : Expr} {scope : Scope} (f : Int → Int → Int) (hh : A.handled = none) (hC : env.locals = C) (hx : env.kindOf x = some .local) (hy : env.kindOf y = some .local)
    (hp : (env.scope.kind == .class || (env.scope.kind == .module && env.locals != env.globals)) = false) (hxy : x ≠ y) (hei : e ≠ it) (hle : l ≠ e) (hli : l ≠ it) (off : ∀ p ∈ news, p.1 ≠ e ∧ p.1 ≠ it) (hl : (l, listOf vs.toArray nn) ∈ news) (hvs : AreInts vs ps) (hz : vs.length ≤ 1000)
    (helt : ∀ i b m₂ ys oe oi s' (E' : Value → Shared → Prop), Has x i m₂ → Has y b m₂ → CS h₀ L m s C D ys m₂ ((e, oe) :: (it, oi) :: news) s' → wpAny (model prog w) A (eval elt env) (fun v s'' => (∃ t, v = .int (f i b) t) ∧ CS h₀ L m s C D ys m₂ ((e, oe) :: (it, oi) :: news) s'') E' s')
    {s' : Shared} (c : ES h₀ L m s C D e it l vs news 0 [] s') :
    codeAny (model prog w) A (.compLoop (.ListComp elt [⟨.Tuple [.Name x px, .Name y py] k tp, iter, [], 0⟩] scope pos) 0 (.ref e) (.ref D) env)
      (fun r s'' => (∃ g, r = .ok g) ∧ ∃ ys m₂, AreInts ys ((List.range vs.length).map fun (i : Nat) => f (i : Int) (ps.getD i 0)) ∧ CS h₀ L m s C D ys m₂ news s'') s' := by
  have W := WalksT.enumerate (prog := prog) (w := w) hh e it l hei hle hli vs.toArray
  have hsz : vs.toArray.size = vs.length := by simp
  rw [hsz] at W
  refine LCp.codeAny_compLoop_pair (fun kk s'' => ∃ i ys, i ≤ vs.length ∧ kk = vs.length - i ∧ AreInts ys ((List.range i).map fun (i : Nat) => f (i : Int) (ps.getD i 0)) ∧ ES h₀ L m s C D e it l vs news i ys s'') ?_ vs.length ⟨0, [], Nat.zero_le _, rfl, AreInts.nil, c⟩
  rintro kk s₁ ⟨i, ys, hi, rfl, hys, m₂, oe, oi, c, st⟩
  obtain ⟨h1, tk1, oC, rfl, F, N, hCo, hCD, hoff⟩ := id c
  by_cases hlt : i < vs.length
  · refine W.item i _ _ _ hlt st fun T vals h2 tk2 hP hT hTup hMid hk2 => ?_
    refine W.go _ _ _ i T _ _ _ hMid fun h3 hst3 hk3 => ?_
    have hk13 : ∀ b o, b ∉ [e, it] → h1.get? b = some o → h3.get? b = some o := fun b o hb x => hk3 b o hb (hk2 b o hb x)
    have st3 : EnSt e it l vs (i + 1) h3 := hst3
    obtain ⟨oe3, oi3, c3⟩ := cs_put2 (h' := h3) (tk' := tk2) c off hk13 (by obtain ⟨⟨old, x⟩, _, _⟩ := st3; exact ⟨_, x⟩) (by obtain ⟨_, ⟨o, x, _⟩, _⟩ := st3; exact ⟨_, x⟩)
    have hTup3 : IsTup h3 T vals := by
      obtain ⟨o, x, r⟩ := hTup
      exact ⟨o, hk3 T o (W.apart i T _ hMid) x, r⟩
    obtain ⟨t, v, hv, rfl⟩ := hP
    have hv' : vs[i]? = some v := by simpa using hv
    have hb : ps[i]? = some (ps.getD i 0) := by
      have : i < ps.length := by rw [← hvs.length]; exact hlt
      simp [List.getD, this]
    obtain ⟨t2, hv2⟩ := hvs.at hb
    rw [hv'] at hv2
    cases hv2
    refine assign_Tuple_tuple hh hTup3 rfl rfl fun h4 hk4 => ?_
    have c4 := cs_heap (h' := h4) (tk' := tk2) c3 (fun b o x => hk4 b o (Nat.ne_of_lt (Heap.lt_size x)) x)
    have st4 := enSt_of hl c3 c4 st3
    refine assignInOrder_cons (wpAny_mono (cs_assign (py := px) (v := .int (i : Int) t) c4 hC hx hp) (fun _ s₅ c5 => ?_) fun _ _ e => e)
    refine assignInOrder_cons (wpAny_mono (cs_assign (py := py) (v := .int (ps.getD i 0) t2) c5 hC hy hp) (fun _ s₆ c6 => ?_) fun _ _ e => e)
    refine assignInOrder_nil ?_
    refine wpAny_mono (helt (i : Int) (ps.getD i 0) _ _ _ _ _ _ ⟨t, by simp [hxy]⟩ ⟨t2, by simp⟩ c6) (fun v s₇ h7 => ?_) fun _ _ e => e
    obtain ⟨⟨t', rfl⟩, c7⟩ := h7
    have hl7 := hys.length
    rw [List.length_map, List.length_range] at hl7
    refine wpAny_mono (cs_append c7 (by omega)) (fun _ s₈ c8 => ?_) fun _ _ e => e
    refine ⟨vs.length - (i + 1), by omega, i + 1, _, hlt, rfl, ?_, _, oe3, oi3, c8, enSt_of hl c4 c8 st4⟩
    rw [List.range_succ, List.map_append]
    exact hys.snoc _ _
  · have : i = vs.length := by omega
    subst this
    refine W.done _ _ _ st fun h2 tk2 hk2 => ?_
    exact ⟨⟨_, rfl⟩, ys, m₂, hys, cs_drop2 c off hk2⟩
def ENd (h₀ : Heap) (L : Addr) (m : PySem.Str → Option Value) (s : Shared) (C D : Addr) (ys : List Value) (m₂ : PySem.Str → Option Value) (its : List (Addr × Obj)) (n : Int) (v : Value) (s'' : Shared) : Prop := (∃ t, v = .int n t) ∧ CS h₀ L m s C D ys m₂ its s''
theorem ENd.intro {C D : Addr} {ys : List Value} {m₂ : PySem.Str → Option Value} {its all : List (Addr × Obj)} {n n' : Int} {t : Tok} {h' : Heap} {tk' : Nat} {oC : Obj} (e : n' = n) (F : Fr h₀ L h' m) (N : News h₀ L h' all) (sub : ∀ p ∈ (C, oC) :: (D, LCg.lst ys) :: its, p ∈ all) (hC : LCg.NsObj oC m₂) (hCD : C ≠ D) (hoff : ∀ p ∈ its, p.1 ≠ C ∧ p.1 ≠ D) :
    ENd h₀ L m s C D ys m₂ its n (.int n' t) { s with heap := h', toks := tk' } := ⟨⟨t, by rw [e]⟩, h', tk', oC, rfl, F, fun p hp => N p (sub p hp), hC, hCD, hoff⟩
inductive EnSrc (prog : Program) (w : World) (A : Around) (env : Env) (elt : Expr) (x y : PySem.Str) (scope : Scope) (cl : List (PySem.Str × Addr)) (h₀ : Heap) (L : Addr) (m : PySem.Str → Option Value) (f : Int → Int → Int) (Q : Value → Shared → Prop) (xv : Value) (s₁ : Shared) : Prop
  | mk (e it l : Addr) (vs : List Value) (ps : List Int) (nn : Nat) (oe oi : Obj) (news : List (Addr × Obj))
    (c0 : xv = .ref e)
    (c1 : Fr h₀ L s₁.heap m)
    (c2 : News h₀ L s₁.heap ((e, oe) :: (it, oi) :: news))
    (c3 : EnSt e it l vs 0 s₁.heap)
    (c4 : e ≠ it)
    (c5 : l ≠ e)
    (c6 : l ≠ it)
    (c7 : (∀ p ∈ news, p.1 ≠ e ∧ p.1 ≠ it))
    (c8 : (l, listOf vs.toArray nn) ∈ news)
    (c9 : AreInts vs ps)
    (c10 : vs.length ≤ 1000)
    (c11 : (∀ i b sb C D m₂ ys oe oi s' (E' : Value → Shared → Prop), Has x i m₂ → Has y b m₂ → CS h₀ L m sb C D ys m₂ ((e, oe) :: (it, oi) :: news) s' → wpAny (model prog w) A (eval elt (compEnvC scope cl C env)) (ENd h₀ L m sb C D ys m₂ ((e, oe) :: (it, oi) :: news) (f i b)) E' s'))
    (c12 : ∀ D h tk ys, AreInts ys ((List.range vs.length).map fun (i : Nat) => f (i : Int) (ps.getD i 0)) → Fr h₀ L h m → News h₀ L h ((D, LCg.lst ys) :: news) → (∀ p ∈ news, p.1 ≠ D) → Q (.ref D) { s₁ with heap := h, toks := tk }) : EnSrc prog w A env elt x y scope cl h₀ L m f Q xv s₁
theorem enumN {l : Addr} {vs : List Value} {nn : Nat} {news : List (Addr × Obj)} {Q : Value → Shared → Prop} (F : Fr h₀ L s.heap m) (N : News h₀ L s.heap news) (hm : (l, listOf vs.toArray nn) ∈ news)
    (h : ∀ e it oe oi h', Fr h₀ L h' m → News h₀ L h' ((e, oe) :: (it, oi) :: news) → EnSt e it l vs 0 h' → e ≠ it → (∀ p ∈ news, p.1 ≠ e ∧ p.1 ≠ it) → Q (.ref e) { s with heap := h' }) :
    wpAny (model prog w) A (call (.type "enumerate") [.ref l]) Q E s := by
  have hl : s.heap.IsList l vs.toArray := ⟨_, (N _ hm).1, rfl, _, rfl⟩
  refine call_enumerate_list hl fun h' he hi hsz hk => ?_
  obtain ⟨oi, hoi, r⟩ := id hi
  obtain ⟨oe, hoe⟩ : ∃ o, h'.get? (s.heap.objs.size + 1) = some o := ⟨_, he⟩
  have new0 : ∀ a, s.heap.objs.size ≤ a → h₀.get? a = none := fun a ha => by
    cases q : h₀.get? a with
    | none => rfl
    | some o => exact absurd (Heap.lt_size (F.keep _ _ q)) (Nat.not_lt.mpr ha)
  have hLlt : L < s.heap.objs.size := F.ns.lt
  refine h (s.heap.objs.size + 1) s.heap.objs.size oe oi h' (F.keeps hk) (fun p hp => ?_) ⟨⟨_, he⟩, hi, hl.at fun o x => hk _ _ x⟩ (Nat.succ_ne_self _) fun p hp => ?_
  · simp only [List.mem_cons] at hp
    rcases hp with rfl | rfl | hp
    · exact ⟨hoe, Nat.ne_of_gt (Nat.lt_succ_of_lt hLlt), new0 _ (Nat.le_succ _)⟩
    · exact ⟨hoi, Nat.ne_of_gt hLlt, new0 _ (Nat.le_refl _)⟩
    · exact ⟨hk _ _ (N p hp).1, (N p hp).2⟩
  · have := Heap.lt_size (N p hp).1
    exact ⟨Nat.ne_of_lt (Nat.lt_succ_of_lt this), Nat.ne_of_lt this⟩
end
end Mine
namespace Mine
def intOf : Value → Int
  | .int n _ => n
  | _ => 0
def pickL (vs : List Value) (lo hi st : Option Int) : List Value := (slicePick vs.toArray lo hi st).toList
theorem ints_of_all : ∀ {xs : List Value}, (∀ v ∈ xs, ∃ n t, v = .int n t) → IntsAre xs (xs.map intOf)
  | [], _ => .nil
  | x :: xs, h => by
    obtain ⟨n, t, rfl⟩ := h x (.head _)
    exact .cons n t (ints_of_all fun v hv => h v (.tail _ hv))
theorem pick_ints {vs : List Value} {ns : List Int} (h : IntsAre vs ns) (lo hi st : Option Int) : IntsAre (pickL vs lo hi st) ((pickL vs lo hi st).map intOf) := by
  refine ints_of_all fun v hv => IntsAre.all h v ?_
  unfold pickL slicePick at hv
  rw [List.mem_filterMap] at hv
  obtain ⟨k, _, hk⟩ := hv
  have := Array.mem_of_getElem? hk
  simpa using this
section
variable {prog : Program} {w : World} {A : Around} {E : Value → Shared → Prop} {s : Shared} {h₀ : Heap} {L l : Addr} {m : PySem.Str → Option Value} {news : List (Addr × Obj)} {vs : List Value} {ns : List Int}
theorem pick3 {value slice : PySem.Expr} {vl vu vk : Value} {lo hi st : Option Int} {ops : List Value} {Q : Value → Shared → Prop} (F : Fr h₀ L s.heap m) (N : News h₀ L s.heap news) (hl : h₀.IsList l vs.toArray) (hi' : IntsAre vs ns) (pl : IsPart vl lo) (pu : IsPart vu hi) (pk : IsPart vk st) (h0 : st ≠ some 0) (hz : ns.length ≤ 1000)
    (h : ∀ D h', Fr h₀ L h' m → News h₀ L h' ((D, listOf (pickL vs lo hi st).toArray 0) :: news) → (∀ p ∈ news, p.1 < D) → IntsAre (pickL vs lo hi st) ((pickL vs lo hi st).map intOf) → Q (.ref D) { s with heap := h' })
    (hs : subscripted slice false (.ref l) (.ref s.heap.objs.size) = operate ops (getItem (.ref l) (.ref s.heap.objs.size))) (ht : ∀ r, letTemporaryGo value (.ref l) r = pure ()) :
    wpAny (model prog w) A (subscriptTail value slice (.ref l) (.ref s.heap.objs.size)) Q E { s with heap := s.heap.push { cls := .type "slice", data := .fields #[vl, vu, vk] } } :=
  kmk_slice3_lit F N (hl.at fun o e => F.keep _ _ e) pl pu pk h0 rfl (fun D h' F' N' l1 => h D h' F' N' l1 (pick_ints hi' _ _ _)) hs ht (by rw [List.size_toArray, hi'.length, sizeLine_eq]; omega)
end
/-- the script's part from j on, by steps -/
def sumFrom (vs : List Value) (st : Int) (j : Int) : Int := ((pickL vs (some j) none (some st)).map intOf).sum
end Mine
end SCompE
section SCompEA
open PySem PySem.W PyProof.Rows PySem.Calls
set_option Elab.async false
set_option maxRecDepth 100000
set_option autoImplicit false
namespace Mine
section
variable {prog : Program} {w : World} {A : Around} {E : Value → Shared → Prop} {s : Shared} {h₀ : Heap} {L C D : Addr} {m : PySem.Str → Option Value} {env : Env}
/-- an enumeration as a comprehension's source, assigned -/
inductive EnSrcA (prog : Program) (w : World) (A : Around) (env : Env) (elt : Expr) (x y : PySem.Str) (scope : Scope) (cl : List (PySem.Str × Addr)) (h₀ : Heap) (L : Addr) (m : PySem.Str → Option Value) (f : Int → Int → Int) (z : PySem.Str) (Q : Flow → Shared → Prop) (xv : Value) (s₁ : Shared) : Prop
  | mk (e it l : Addr) (vs : List Value) (ps : List Int) (nn : Nat) (oe oi : Obj) (news : List (Addr × Obj))
    (c0 : xv = .ref e)
    (c1 : Fr h₀ L s₁.heap m)
    (c2 : News h₀ L s₁.heap ((e, oe) :: (it, oi) :: news))
    (c3 : EnSt e it l vs 0 s₁.heap)
    (c4 : e ≠ it)
    (c5 : l ≠ e)
    (c6 : l ≠ it)
    (c7 : (∀ p ∈ news, p.1 ≠ e ∧ p.1 ≠ it))
    (c8 : (l, listOf vs.toArray nn) ∈ news)
    (c9 : AreInts vs ps)
    (c10 : vs.length ≤ 1000)
    (c11 : (∀ i b sb C D m₂ ys oe oi s' (E' : Value → Shared → Prop), Has x i m₂ → Has y b m₂ → CS h₀ L m sb C D ys m₂ ((e, oe) :: (it, oi) :: news) s' → wpAny (model prog w) A (eval elt (compEnvC scope cl C env)) (ENd h₀ L m sb C D ys m₂ ((e, oe) :: (it, oi) :: news) (f i b)) E' s'))
    (c12 : ∀ D h tk ys, AreInts ys ((List.range vs.length).map fun (i : Nat) => f (i : Int) (ps.getD i 0)) → Fr h₀ L h (fun q => if q = z then some (.ref D) else m q) → News h₀ L h ((D, LCg.lst ys) :: news) → (∀ p ∈ news, p.1 ≠ D) → Q .next { s₁ with heap := h, toks := tk }) : EnSrcA prog w A env elt x y scope cl h₀ L m f z Q xv s₁
theorem comp_enA {x y z : PySem.Str} {px py pz tp pos spos : Pos} {k : Nat} {iter elt : Expr} {scope : Scope} {cl : List (PySem.Str × Addr)} {Q : Flow → Shared → Prop} (f : Int → Int → Int) (_F₀ : Fr h₀ L s.heap m) (hLe : env.locals = L)
    (hsw : swapsWith (.ListComp elt [⟨.Tuple [.Name x px, .Name y py] k tp, iter, [], 0⟩] scope pos) (some (.Name z pz)) spos.line env = pure true) (hh : A.handled = none) (hxy : x ≠ y)
    (hclos : closureFor scope env = pure cl) (hcell : ∀ y ∈ scope.names, y.2 ≠ .cell) (hkind : scope.kind = .function)
    (hnames : ∀ y ∈ scope.names, y.2 = .local → scope.names.lookup y.1 = some .local) (hx : scope.names.lookup x = some .local) (hy : scope.names.lookup y = some .local)
    (hz0 : env.kindOf z = some .local) (hp0 : (env.scope.kind == .class || (env.scope.kind == .module && env.locals != env.globals)) = false)
    (hs0 : ∀ x, foldedSetIterable iter env x = pure x)
    (h : wpAny (model prog w) A (eval iter env) (EnSrcA prog w A env elt x y scope cl h₀ L m f z Q) E s) :
    wpAny (model prog w) A (exec (.Assign [.Name z pz] (.ListComp elt [⟨.Tuple [.Name x px, .Name y py] k tp, iter, [], 0⟩] scope pos) spos) env) Q E s := by
  subst hLe
  rw [exec_Assign_Name_used _ _ _ _ hsw]
  refine wpAny_bind (wpAny_standAt (wpAny_bind ?_))
  show wpAny _ A (do let _ ← comprehension (.ListComp elt [⟨.Tuple [.Name x px, .Name y py] k tp, iter, [], 0⟩] scope pos) scope env _ (newList []) false (eval iter env) (some (assign (.Name z pz) env))) _ _ s
  refine wpAny_bind (wpAny_mono (wpAny_comprehension_free (use := some (assign (.Name z pz) env)) (Q := fun _ s' => Q .next s') rfl hs0 hclos hkind hnames
    (wpAny_mono h (fun xv s₁ h₁ => ?_) fun _ _ e => e)) (fun _ s' hq => wpAny_pure (wpAny_pure hq)) fun _ _ e => e)
  obtain ⟨e, it, l, vs, ps, nn, oe, oi, news, rfl, F, N, st, hei, hle, hli, off, hl, hvs, hz, helt, fin⟩ := h₁
  obtain ⟨old, he⟩ := st.1
  refine wpAny_pyIter_enum he ?_
  refine wpAny_newObj_type (wpAny_newFunctionEnv hcell (by intro y hy; simp at hy) (fun h₁ hns₁ hsb₁ => ?_) hkind)
  dsimp only at hns₁ hsb₁ ⊢
  have F3 : Fr h₀ env.locals (s₁.heap.push (LCg.lst [])) m := F.push _
  have N3 : News h₀ env.locals (s₁.heap.push (LCg.lst [])) ((s₁.heap.objs.size, LCg.lst []) :: (e, oe) :: (it, oi) :: news) := News.push F N _
  have off3 : ∀ p ∈ (e, oe) :: (it, oi) :: news, p.1 ≠ s₁.heap.objs.size := fun p hp => Nat.ne_of_lt (Heap.lt_size (N p hp).1)
  have up0 : ∀ b o, s₁.heap.get? b = some o → (s₁.heap.push (LCg.lst [])).get? b = some o := fun b o x => Heap.get?_push_of_some _ x
  have hH2 : s₁.heap.push { cls := .type "list", dict := none, data := .seq ([] : List Value).toArray } = s₁.heap.push (LCg.lst []) := rfl
  rw [hH2] at hns₁ hsb₁ ⊢
  generalize s₁.heap.objs.size = D at N3 off3 ⊢
  generalize s₁.heap.push (LCg.lst []) = H2 at F3 N3 hns₁ hsb₁ up0 ⊢
  have lt3 : ∀ p ∈ (D, LCg.lst []) :: (e, oe) :: (it, oi) :: news, p.1 < H2.objs.size := fun p hp => Heap.lt_size (N3 p hp).1
  have up : ∀ b o, H2.get? b = some o → h₁.get? b = some o := fun b o e => hsb₁.extBut b o (Nat.ne_of_lt (Heap.lt_size e)) (Heap.get?_push_of_some _ e)
  obtain ⟨oC, hoC, hNs⟩ := LCg.ns_obj hns₁
  have F4 : Fr h₀ env.locals h₁ m := F3.keeps up
  have hCL : H2.objs.size ≠ env.locals := Ne.symm (Nat.ne_of_lt F3.ns.lt)
  have hC0 : h₀.get? H2.objs.size = none := next_is_new F3
  generalize H2.objs.size = C at *
  have cs0 : CS h₀ env.locals m s₁ C D [] (fun _ => none) ((e, oe) :: (it, oi) :: news) { s₁ with heap := h₁, toks := s₁.toks + ([] : List (PySem.Str × Value)).length } := by
    refine ⟨h₁, _, oC, rfl, F4, fun p hp => ?_, hNs, Ne.symm (Nat.ne_of_lt (lt3 (D, LCg.lst []) (by simp))), fun p hp => ⟨Nat.ne_of_lt (lt3 p (.tail _ hp)), off3 p hp⟩⟩
    rcases List.mem_cons.mp hp with rfl | hp
    · exact ⟨hoC, hCL, hC0⟩
    · exact ⟨up _ _ (N3 p hp).1, (N3 p hp).2⟩
  have st1 : EnSt e it l vs 0 h₁ := ⟨⟨old, up _ _ (up0 _ _ he)⟩, st.2.1.at fun o x => up _ _ (up0 _ _ x), st.2.2.at fun o x => up _ _ (up0 _ _ x)⟩
  have kx : ∀ {q : PySem.Str}, scope.names.lookup q = some .local → (compEnvC scope cl C env).kindOf q = some .local := fun hq => lookup_relabel_local hq
  have hpp : ((compEnvC scope cl C env).scope.kind == .class || ((compEnvC scope cl C env).scope.kind == .module && (compEnvC scope cl C env).locals != (compEnvC scope cl C env).globals)) = false := by simp [compEnvC, relabel, hkind]
  have key := en_loop (prog := prog) (w := w) (A := A) (px := px) (py := py) (tp := tp) (pos := pos) (k := k) (iter := iter) (scope := scope) (env := compEnvC scope cl C env) f hh rfl (kx hx) (kx hy) hpp hxy hei hle hli off hl hvs hz (fun i b m₂ ys oe oi s' E' => helt i b s₁ C D m₂ ys oe oi s' E') ⟨_, oe, oi, cs0, st1⟩
  refine codeAny_compStart_list (codeAny_mono key ?_) (wpAny_pyIter_enum st1.1.choose_spec (codeAny_mono key ?_))
  all_goals
    intro r s'' hr
    obtain ⟨⟨g, rfl⟩, ys, m₂, hys, h', tk, oC', rfl, F', N', hNs', hCD, hoff⟩ := hr
    show wpAny _ A (assign (.Name z pz) env (.ref D)) _ _ _
    refine wpAny_assign_Name (wpAny_storeName_local hz0 F'.ns (fun h₂ hn₂ hs₂ => ?_) hp0)
    exact ⟨m₂, (hNs'.ns (N' _ (.head _)).1).sameBut hs₂ hCL, fun h'' hs'' => fin D h'' _ ys hys ((F'.set hn₂ hs₂).change hs'' hCL hC0) (PySem.W.kas_news (N'.tail'.set hs₂) hs'' (head_off hCD fun p hp => (hoff p hp).1)) fun p hp => (hoff p hp).2⟩
end
end Mine
end SCompEA
section Walk
open PySem PySem.W PyProof.Rows PySem.Calls
set_option maxRecDepth 100000
set_option maxHeartbeats 8000000
local macro_rules | `(tactic| k_room) => `(tactic| ktr_room)
local macro_rules | `(tactic| k_units) => `(tactic| ktr_units)
local macro_rules | `(tactic| ktr_room) => `(tactic| first | (refine' Mine.roomA (by with_reducible assumption) ?e9; (try simp only [depth_under_make, depth_under_kw, depth_in1, depth_deeper, depth_caller]); (try dsimp only [cT]); (try simp only [Nat.add_assoc, Nat.reduceAdd]); exact Nat.add_le_add_left (by decide) _) | ((try simp only [depth_under_make, depth_under_kw, depth_in1, depth_deeper, depth_caller] at *); (try dsimp only [cT] at *); omega))
local macro_rules | `(tactic| ktr_units) => `(tactic| first | (refine' Mine.roomA (by with_reducible assumption) ?e9; (try simp only [units_in1, units_deeper, Around.mark_units, units_caller]); (try dsimp only [cT]); (try simp only [Nat.add_assoc, Nat.reduceAdd]); exact Nat.add_le_add_left (by decide) _) | (have hcL9 := cLine_is; (try simp only [units_in1, units_deeper, Around.mark_units, units_caller] at *); (try dsimp only [cT] at *); omega))
local macro_rules | `(tactic| walk_at "execs cons") => `(tactic| (k_here; with_reducible refine Mine.gentoks1 ?_; intro _ _))
local macro_rules | `(tactic| walk_at "execs nil") => `(tactic| (k_here; with_reducible refine Mine.gentoks1 ?_; intro _ _))
local macro_rules | `(tactic| ktr_enter) => `(tactic| first
  | (refine' code_def (by k_asm) (by k_asm) (by k_asm) (by k_asm) (by k_asm) (by exact rfl) (by first | assumption | exact rfl) (by first | assumption | exact rfl) (by k_is) (by k_is) (by ktr_room) (by exact BindsTo.of_eq rfl) (by exact locs rfl) ?_ (by exact rfl) (by exact rfl) (by exact rfl) (by decide); k_whole; intro _ _ _ _ _ _ _ _ _; (try dsimp only); (try k_fold))
  | (refine' code_defC (by k_asm) (by k_asm) (by k_asm) (by k_asm) (by k_asm) (by exact rfl) (by first | assumption | exact rfl) (by first | assumption | exact rfl) (by k_is) (by k_is) (by ktr_room) (by exact BindsTo.of_eq rfl) (by exact rfl) (by decide +kernel) ?_ (by exact rfl) (by exact rfl) (by exact rfl); k_whole; intro _ _ _ _ _ _ _ N' Y' _ _ _ l1; (try k_lt l1); k_cells Y'; (try simp only [List.cons_append, List.nil_append] at N'); (try dsimp only); (try k_fold)))
local macro_rules | `(tactic| k_lt $h:ident) => `(tactic| (replace $h := allLt_of $h; (try simp only [AllLt, and_true] at $h:ident); (repeat (have hlt9 := And.left $h; replace $h := And.right $h))))
local macro_rules | `(tactic| k_all) => `(tactic| first | exact PySem.W.tbn_neAll (by with_reducible assumption) | exact Mine.allLt_ne1 (by with_reducible assumption) | exact Mine.allLt_ne2 (by with_reducible assumption))
local macro_rules | `(tactic| k_allIn) => `(tactic| (intro _ _; k_ownIn))
local macro_rules | `(tactic| k_ownIn) => `(tactic| first | with_reducible assumption | (refine List.Mem.tail _ ?_; k_ownIn))
local macro_rules | `(tactic| k_ne) => `(tactic| first | with_reducible assumption | (refine neN ?_; (try dsimp only); first | with_reducible assumption | exact Nat.ne_of_lt (by with_reducible assumption) | exact Nat.ne_of_gt (by with_reducible assumption) | omega))
local macro_rules | `(tactic| k_all) => `(tactic| first | with_reducible assumption | exact Nat.le_add_left 1 _ | (dsimp only; omega))
section SNs2
namespace Mine
theorem fresh1 : True := by
  w_top off
  trivial
end Mine
open PySem PySem.W PyProof.Rows PySem.Calls
set_option Elab.async false
set_option maxRecDepth 100000
set_option maxHeartbeats 8000000
set_option pp.maxSteps 400
set_option autoImplicit false
namespace Mine
theorem namesNil {prog : Program} {w : World} {o : Obj} (h : o.IsDictOf (strKind prog w) []) : NamesOf prog w o [] := ⟨[], trivial, h⟩
local macro_rules | `(tactic| walk_at "eval Dict") => `(tactic| (k_here; k_dflt (refine' dict_lit (by k_asm) (by k_asm) (by exact Top.nolimit (by k_asm)) (by first | exact .cons (.cons (.cons .nil)) | exact .cons (.cons (.cons (.cons .nil))) | exact .cons (.cons (.cons (.cons (.cons .nil)))) | exact .nil) (by exact List.cons_ne_nil _ _) (by exact Nat.le_of_ble_eq_true rfl) (by decide +kernel) ?_; k_whole; intro D' o' h' tk' htk' F' N' l1 lo' hd'; (try k_lt l1))))
theorem ct_names0 (w : World) (d : Nat) (t : Tok) (hd : d < 7) (own : List (Addr × Obj)) :
    Ct0 w 20 200 146 [.int (d : Int) t] own True (fun v n' => ∃ D o, v = .ref D ∧ (D == sysModules) = false ∧ NamesOf PySem.Challenge.rw_rw0051_02.row.prog w o (tabOf d) ∧ AllLt D own ∧ n' = (D, o) :: own) := by
  unfold Ct0
  k_fill
  intro p loose mean mg mb dp un gd env outer A₀ base h₀ L m s Q E B F X N T hf hk hdp hun hx hret
  k_dflt ktr_enter
  with_reducible refine gentoks2 ?hX ?_
  case hX => exact Nat.le_add_left 1 _
  intro tk htk1
  k_steps
  have hc : d = 0 ∨ d = 1 ∨ d = 2 ∨ d = 3 ∨ d = 4 ∨ d = 5 ∨ d = 6 := by omega
  rcases hc with rfl | rfl | rfl | rfl | rfl | rfl | rfl
  all_goals
    refine menu_item (by k_asm) (.head _) (by decide) (by decide) rfl ?_
    k_steps
    exact hret _ _ _ _ (by k_asm) (cb_drop (show News _ _ _ (_ :: _ :: _ :: _ :: _ :: _ :: _ :: _ :: own) by k_asm) fun p9 hp9 => by rcases List.mem_cons.mp hp9 with rfl | hp9; (· k_mem); (· k_ownIn)) (by first | with_reducible assumption | exact Nat.le_add_left 1 _ | (dsimp only; omega)) ⟨_, _, rfl, by with_reducible assumption, by first | assumption | exact namesNil (by assumption), by with_reducible assumption, rfl⟩
end Mine
end SNs2
section SQuote2
namespace Mine
theorem fresh2 : True := by
  w_top off
  trivial
end Mine
open PySem PySem.W PyProof.Rows PySem.Calls
set_option Elab.async false
set_option maxRecDepth 100000
set_option maxHeartbeats 8000000
set_option pp.maxSteps 400
set_option autoImplicit false
namespace Mine
local macro_rules | `(tactic| walk_at "getMethod ref") => `(tactic| (k_here; k_dflt (refine' getMethod_pat (by refine' isPat_K (by k_in) (by k_is) (by k_is) (by rfl)) ?_; k_whole)))
local macro_rules | `(tactic| walk_at "call builtin:re.Pattern.sub") => `(tactic| (refine Mine.Hold.out ?_))
theorem ct_quote (w : World) (l : List Nat) (t : Tok) (news) : Ct w 20 200 90 [.str (S l) t] news (l.length ≤ 1000000 ∧ 10 ∉ l ∧ 13 ∉ l) (fun r n' => n' = news ∧ ∃ t', r = .str (S (qd l)) t') := by
  unfold Ct
  k_fill
  intro p loose mean mg mb dp un gd env outer A₀ base h₀ L m s Q E B F X N T hf hk hdp hun htk hx hret
  obtain ⟨hl, h10, h13⟩ := hx
  refine codeAny_with_toks htk ?_
  k_dflt ktr_enter
  refine gentoks2 (Nat.le_trans htk (Nat.le_add_right _ _)) ?_
  intro tk htk1
  k_steps
  unfold Hold
  k_dflt (first | (refine' sub_B (by refine' isPat_K (by k_in) (by k_is) (by k_is) (by decide +kernel)) (by assumption) (by assumption) (by assumption) (by decide +kernel) (by decide +kernel) (by k_asm) (by k_asm) ?_) | (refine' sub_A (by refine' isPat_K (by k_in) (by k_is) (by k_is) (by decide +kernel)) (by assumption) (by assumption) (by decide +kernel) (by k_asm) (by k_asm) ?_)); intro _ _ _ _ _; k_sweep
  k_steps
  unfold Hold
  k_dflt (first | (refine' sub_B (by refine' isPat_K (by k_in) (by k_is) (by k_is) (by decide +kernel)) (by assumption) (by assumption) (by assumption) (by decide +kernel) (by decide +kernel) (by k_asm) (by k_asm) ?_) | (refine' sub_A (by refine' isPat_K (by k_in) (by k_is) (by k_is) (by decide +kernel)) (by assumption) (by assumption) (by decide +kernel) (by k_asm) (by k_asm) ?_)); intro _ _ _ _ _; k_sweep
  k_steps
  all_goals exact hret _ _ _ _ (by k_asm) (by k_asm) (by assumption) ⟨rfl, _, rfl⟩
end Mine
end SQuote2
section SPush2
namespace Mine
theorem fresh3 : True := by
  w_top off
  trivial
end Mine
open PySem PySem.W PyProof.Rows PySem.Calls
set_option Elab.async false
set_option maxRecDepth 100000
set_option maxHeartbeats 8000000
set_option pp.maxSteps 400
set_option autoImplicit false
namespace Mine
structure DT where
  (h1 h2 h3 h4 h5 : Int)
  (t1 t2 t3 t4 t5 tv : Tok)
/-- a lexer's dict -/
abbrev lexDict (d : DT) (line : Int) (u : Tok) (tape : Value) (pb : Addr) : Obj :=
  dictOf [⟨d.h1, .str (PySem.Str.ofString "lineno") d.t1, .int line u⟩, ⟨d.h2, .str (PySem.Str.ofString "instream") d.t2, tape⟩, ⟨d.h3, .str (PySem.Str.ofString "whitespace") d.t3, .str (PySem.Str.ofString "\n\t\r ") d.tv⟩, ⟨d.h4, .str (PySem.Str.ofString "pushback") d.t4, .ref pb⟩] 4
abbrev tapeDict (d : DT) (v1 v2 v3 v4 : Value) (lam : Addr) : Obj :=
  dictOf [⟨d.h1, .str (PySem.Str.ofString "lineno") d.t1, v1⟩, ⟨d.h2, .str (PySem.Str.ofString "instream") d.t2, v2⟩, ⟨d.h3, .str (PySem.Str.ofString "whitespace") d.t3, v3⟩, ⟨d.h4, .str (PySem.Str.ofString "pushback") d.t4, v4⟩, ⟨d.h5, .str (PySem.Str.ofString "read") d.t5, .ref lam⟩] 5
/-- what the reading lambda does when it is called -/
def LamSpec (w : World) (lam cell : Addr) (LO : Obj) (cc : Addr) (CO : Obj) : Prop :=
  ∀ (sg : Addr) (SO : Obj) (nn : Nat) (t : Tok) (own : List (Addr × Obj)), SO.data = .cell (some (.ref sg)) → OwnOff own [sg] → @Ne Nat lam sg → @Ne Nat cc sg → @Ne Nat cell sg →
    (Ct w 10 100 lam [.int 1 t] ((lam, LO) :: (cc, CO) :: (cell, SO) :: (sg, listOf #[] nn) :: own) True
      (fun r n' => (∃ t', r = .str (S []) t') ∧ n' = (lam, LO) :: (cc, CO) :: (cell, SO) :: (sg, listOf #[] nn) :: own)) ∧
    (∀ (ys : List (PySem.Str × Tok)) (y : PySem.Str) (ty : Tok), ys.length ≤ 100000 → Ct w 10 100 lam [.int 1 t] ((lam, LO) :: (cc, CO) :: (cell, SO) :: (sg, listOf (strValues (ys ++ [(y, ty)])).toArray nn) :: own) True
      (fun r n' => r = .str y ty ∧ n' = (lam, LO) :: (cc, CO) :: (cell, SO) :: (sg, listOf (strValues ys).toArray (nn + 1)) :: own))
structure LexA where
  (x dx pb tape dt lam cc cell sg : Addr)
  (d e : DT)
  (v1 v2 v3 v4 : Value)
  (LO CO SO : Obj)
abbrev LexA.adrs (a : LexA) : List Addr := [a.x, a.dx, a.pb, a.tape, a.dt, a.lam, a.cc, a.cell, a.sg]
/-- a lexer and its tape, on the ledger: its line, the line of waiting texts, the signs that are not read (the next one last) -/
abbrev lexLed (a : LexA) (line : Int) (u : Tok) (qs : List (PySem.Str × Tok)) (nq : Nat) (ys : List (PySem.Str × Tok)) (ny : Nat) : List (Addr × Obj) :=
  [(a.x, instObj 69 a.dx), (a.dx, lexDict a.d line u (.ref a.tape) a.pb), (a.pb, listOf (strValues qs).toArray nq), (a.tape, instObj 69 a.dt), (a.dt, tapeDict a.e a.v1 a.v2 a.v3 a.v4 a.lam), (a.lam, a.LO), (a.cc, a.CO), (a.cell, a.SO), (a.sg, listOf (strValues ys).toArray ny)]
structure LexOk (w : World) (a : LexA) : Prop where
  lam : LamSpec w a.lam a.cell a.LO a.cc a.CO
  so : a.SO.data = .cell (some (.ref a.sg))
  nd : a.adrs.Nodup
  fn : ∃ oc od fd sl, a.LO = ⟨oc, od, .func fd, sl⟩
theorem LexOk.fnAt {w : World} {a : LexA} {h₀ h : Heap} {L : Addr} {news : List (Addr × Obj)} (ok : LexOk w a) (N : News h₀ L h news) (hm : (a.lam, a.LO) ∈ news) : FnAt a.lam h := by
  obtain ⟨oc, od, fd, sl, e⟩ := ok.fn
  exact ⟨oc, od, fd, sl, e ▸ (N _ hm).1⟩
end Mine
namespace Mine
theorem nd9 {x dx pb tape dt lam cc cell sg : Nat} (h : ([x, dx, pb, tape, dt, lam, cc, cell, sg] : List Nat).Nodup) :
    (x ≠ dx ∧ pb ≠ dx ∧ tape ≠ dx ∧ dt ≠ dx ∧ lam ≠ dx ∧ cc ≠ dx ∧ cell ≠ dx ∧ sg ≠ dx) ∧ (x ≠ pb ∧ dx ≠ pb ∧ tape ≠ pb ∧ dt ≠ pb ∧ lam ≠ pb ∧ cc ≠ pb ∧ cell ≠ pb ∧ sg ≠ pb) ∧ (x ≠ sg ∧ dx ≠ sg ∧ pb ≠ sg ∧ tape ≠ sg ∧ dt ≠ sg ∧ lam ≠ sg ∧ cc ≠ sg ∧ cell ≠ sg) := by
  obtain ⟨h0, h⟩ := List.pairwise_cons.mp h
  obtain ⟨h1, h⟩ := List.pairwise_cons.mp h
  obtain ⟨h2, h⟩ := List.pairwise_cons.mp h
  obtain ⟨h3, h⟩ := List.pairwise_cons.mp h
  obtain ⟨h4, h⟩ := List.pairwise_cons.mp h
  obtain ⟨h5, h⟩ := List.pairwise_cons.mp h
  obtain ⟨h6, h⟩ := List.pairwise_cons.mp h
  obtain ⟨h7, h⟩ := List.pairwise_cons.mp h
  exact ⟨⟨h0 _ (.head _), Ne.symm (h1 _ (.head _)), Ne.symm (h1 _ (.tail _ (.head _))), Ne.symm (h1 _ (.tail _ (.tail _ (.head _)))), Ne.symm (h1 _ (.tail _ (.tail _ (.tail _ (.head _))))), Ne.symm (h1 _ (.tail _ (.tail _ (.tail _ (.tail _ (.head _)))))), Ne.symm (h1 _ (.tail _ (.tail _ (.tail _ (.tail _ (.tail _ (.head _))))))), Ne.symm (h1 _ (.tail _ (.tail _ (.tail _ (.tail _ (.tail _ (.tail _ (.head _))))))))⟩, ⟨h0 _ (.tail _ (.head _)), h1 _ (.head _), Ne.symm (h2 _ (.head _)), Ne.symm (h2 _ (.tail _ (.head _))), Ne.symm (h2 _ (.tail _ (.tail _ (.head _)))), Ne.symm (h2 _ (.tail _ (.tail _ (.tail _ (.head _))))), Ne.symm (h2 _ (.tail _ (.tail _ (.tail _ (.tail _ (.head _)))))), Ne.symm (h2 _ (.tail _ (.tail _ (.tail _ (.tail _ (.tail _ (.head _)))))))⟩, ⟨h0 _ (.tail _ (.tail _ (.tail _ (.tail _ (.tail _ (.tail _ (.tail _ (.head _)))))))), h1 _ (.tail _ (.tail _ (.tail _ (.tail _ (.tail _ (.tail _ (.head _))))))), h2 _ (.tail _ (.tail _ (.tail _ (.tail _ (.tail _ (.head _)))))), h3 _ (.tail _ (.tail _ (.tail _ (.tail _ (.head _))))), h4 _ (.tail _ (.tail _ (.tail _ (.head _)))), h5 _ (.tail _ (.tail _ (.head _))), h6 _ (.tail _ (.head _)), h7 _ (.head _)⟩⟩
theorem lexOff {own : List (Addr × Obj)} {a : LexA} (h : OwnOff own a.adrs) {bs : List Addr} (hb : ∀ b ∈ bs, b ∈ a.adrs) : OwnOff own bs := off_sub h hb
/-- the reading lambda over the whole lexer -/
theorem lam_lex {w : World} {a : LexA} (ok : LexOk w a) (line : Int) (u : Tok) (qs : List (PySem.Str × Tok)) (nq ny : Nat) (t : Tok) (own : List (Addr × Obj)) (hoff : OwnOff own a.adrs) :
    (Ct w 10 100 a.lam [.int 1 t] (lexLed a line u qs nq [] ny ++ own) True (fun r n' => (∃ t', r = .str (S []) t') ∧ n' = lexLed a line u qs nq [] ny ++ own)) ∧
    (∀ (ys : List (PySem.Str × Tok)) (y : PySem.Str) (ty : Tok), ys.length ≤ 100000 → Ct w 10 100 a.lam [.int 1 t] (lexLed a line u qs nq (ys ++ [(y, ty)]) ny ++ own) True
      (fun r n' => r = .str y ty ∧ n' = lexLed a line u qs nq ys (ny + 1) ++ own)) := by
  obtain ⟨⟨_, _, _, _, _, _, _, hsd⟩, ⟨_, _, _, _, _, _, _, hsp⟩, h1, h2, h3, h4, h5, h6, h7, h8⟩ := nd9 ok.nd
  have off : OwnOff ((a.x, instObj 69 a.dx) :: (a.dx, lexDict a.d line u (.ref a.tape) a.pb) :: (a.pb, listOf (strValues qs).toArray nq) :: (a.tape, instObj 69 a.dt) :: (a.dt, tapeDict a.e a.v1 a.v2 a.v3 a.v4 a.lam) :: own) [a.sg] := by
    have one : ∀ {b : Addr}, @Ne Nat b a.sg → ∀ c ∈ [a.sg], b ≠ c := fun h c hc => by rw [List.mem_singleton.mp hc]; exact h
    exact off_cons (one h1) (off_cons (one h2) (off_cons (one h3) (off_cons (one h4) (off_cons (one h5) (lexOff hoff (by simp))))))
  have sp := ok.lam a.sg a.SO ny t _ ok.so off h6 h7 h8
  have mv : ∀ (ys : List (PySem.Str × Tok)) (n : Nat) (p : Addr × Obj), p ∈ ((a.lam, a.LO) :: (a.cc, a.CO) :: (a.cell, a.SO) :: (a.sg, listOf (strValues ys).toArray n) :: (a.x, instObj 69 a.dx) :: (a.dx, lexDict a.d line u (.ref a.tape) a.pb) :: (a.pb, listOf (strValues qs).toArray nq) :: (a.tape, instObj 69 a.dt) :: (a.dt, tapeDict a.e a.v1 a.v2 a.v3 a.v4 a.lam) :: own) ↔
      p ∈ lexLed a line u qs nq ys n ++ own := by
    intro ys n p
    dsimp only [lexLed, List.cons_append, List.nil_append]
    constructor
    all_goals
      intro hp
      iterate 9 (rcases List.mem_cons.mp hp with rfl | hp; · (repeat first | exact List.Mem.head _ | refine List.Mem.tail _ ?_))
      (repeat first | exact hp | refine List.Mem.tail _ ?_)
  refine ⟨sp.1.perm (fun p hp => (mv [] ny p).mp hp) fun r n hP => ⟨_, fun p hp => ?_, hP.1, rfl⟩, fun ys y ty hy => (sp.2 ys y ty hy).perm (fun p hp => (mv _ ny p).mp hp) fun r n hP => ⟨_, fun p hp => ?_, hP.1, rfl⟩⟩
  · rw [hP.2]; exact (mv [] ny p).mpr hp
  · rw [hP.2]; exact (mv ys (ny + 1) p).mpr hp
theorem nil10 (h : (S [] == PySem.Str.ofString "\n") = true) : False := by
  rw [of_lf] at h
  have := S_inj (beq_iff_eq.mp h)
  cases this
theorem eq10 {c : Nat} (h : (S [c] == PySem.Str.ofString "\n") = true) : c = 10 := by
  rw [of_lf] at h
  have := S_inj (beq_iff_eq.mp h)
  simpa using this
theorem ne10 {c : Nat} (h : (S [c] == PySem.Str.ofString "\n") = false) : ¬ c = 10 := fun e => by
  subst e
  rw [of_lf] at h
  simp at h
theorem ne10' {c : Nat} (h : ¬ (S [c] == PySem.Str.ofString "\n") = true) : ¬ c = 10 := ne10 (Bool.eq_false_iff.mpr h)
end Mine
namespace Mine
theorem ct_push (w : World) (v : Value) (x dx pb : Addr) (d : DT) (line : Int) (u : Tok) (tape : Value) (items : List Value) (nn : Nat) (own : List (Addr × Obj)) :
    Ct w 20 200 66 [.ref x, v] ((x, instObj 69 dx) :: (dx, lexDict d line u tape pb) :: (pb, listOf items.toArray nn) :: own) (items.length ≤ 100000 ∧ OwnOff own [x, dx, pb] ∧ @Ne Nat x dx ∧ @Ne Nat x pb ∧ @Ne Nat dx pb)
      (fun r n' => r = .none ∧ n' = (x, instObj 69 dx) :: (dx, lexDict d line u tape pb) :: (pb, listOf (items ++ [v]).toArray (nn + 1)) :: own) := by
  unfold Ct
  k_fill
  intro p loose mean mg mb dp un gd env outer A₀ base h₀ L m s Q E B F X N T hf hk hdp hun htk hx hret
  obtain ⟨hlen, hoff, n1, n2, n3⟩ := hx
  refine codeAny_with_toks htk ?_
  k_dflt ktr_enter
  refine gentoks2 (Nat.le_trans htk (Nat.le_add_right _ _)) ?_
  intro tk htk1
  k_steps
  all_goals exact hret _ _ _ _ (by k_asm) (by k_asm) (by assumption) ⟨rfl, by simp⟩
end Mine
end SPush2
section SRead2
namespace Mine
theorem fresh4 : True := by
  w_top off
  trivial
end Mine
open PySem PySem.W PyProof.Rows PySem.Calls
set_option Elab.async false
set_option maxRecDepth 100000
set_option maxHeartbeats 8000000
set_option pp.maxSteps 400
set_option autoImplicit false
namespace Mine
local macro_rules | `(tactic| walk_at "call ref") => `(tactic| (refine Mine.Hold.out ?_))
local macro_rules | `(tactic| walk_at "callWith ref") => `(tactic| (k_here; k_dflt (refine' callWith_F (by exact LexOk.fnAt (by assumption) (by k_asm) (by k_mem)) ?_; k_whole)))
local macro_rules | `(tactic| walk_at "And") => `(tactic| ((with_reducible show FnAt _ _ ∧ _); refine ⟨by (k_dflt exact LexOk.fnAt (by assumption) (by k_asm) (by k_mem)), ?_⟩; try dsimp only [List.nil_append, List.cons_append]))
theorem ct_read1 (w : World) (a : LexA) (ok : LexOk w a) (line : Int) (u : Tok) (qs : List (PySem.Str × Tok)) (nq ny : Nat) (own : List (Addr × Obj)) (hoff : OwnOff own a.adrs) (ys : List (PySem.Str × Tok)) (c : Nat) (ty : Tok) (hys : ys.length ≤ 100000) :
    Ct w 20 200 52 [.ref a.x] (lexLed a line u qs nq (ys ++ [(S [c], ty)]) ny ++ own) True
      (fun r n' => r = .str (S [c]) ty ∧ ∃ u', n' = lexLed a (if c = 10 then line + 1 else line) u' qs nq ys (ny + 1) ++ own) := by
  unfold Ct
  k_fill
  intro p loose mean mg mb dp un gd env outer A₀ base h₀ L m s Q E B F X N T hf hk hdp hun htk hx hret
  obtain ⟨⟨_, _, _, _, _, _, _, _⟩, ⟨_, _, _, _, _, _, _, _⟩, _, _, _, _, _, _, _, _⟩ := nd9 ok.nd
  dsimp only [lexLed, List.cons_append, List.nil_append] at N
  refine codeAny_with_toks htk ?_
  k_dflt ktr_enter
  refine gentoks2 (Nat.le_trans htk (Nat.le_add_right _ _)) ?_
  intro tk htk1
  k_steps
  unfold Hold
  k_dflt (refine' ct_useA ((lam_lex (by assumption) _ _ _ _ _ _ _ (by assumption)).2 _ _ _ (by assumption)) trivial ?_; k_whole; intro _ _ _ _ _ N' _ hp9; obtain ⟨e1, e2⟩ := hp9; subst e1; subst e2; (try dsimp only [lexLed, List.cons_append, List.nil_append] at N'); (try k_sweep))
  k_steps
  all_goals first
    | (have hc := eq10 (by assumption); exact hret _ _ _ _ (by k_asm) (by k_asm) (by assumption) ⟨rfl, _, by rw [if_pos hc]; rfl⟩)
    | (have hc := ne10 (by assumption); exact hret _ _ _ _ (by k_asm) (by k_asm) (by assumption) ⟨rfl, _, by rw [if_neg hc]; rfl⟩)
    | (have hc := ne10' (by assumption); exact hret _ _ _ _ (by k_asm) (by k_asm) (by assumption) ⟨rfl, _, by rw [if_neg hc]; rfl⟩)
theorem ct_read0 (w : World) (a : LexA) (ok : LexOk w a) (line : Int) (u : Tok) (qs : List (PySem.Str × Tok)) (nq ny : Nat) (own : List (Addr × Obj)) (hoff : OwnOff own a.adrs) :
    Ct w 20 200 52 [.ref a.x] (lexLed a line u qs nq [] ny ++ own) True
      (fun r n' => (∃ t', r = .str (S []) t') ∧ n' = lexLed a line u qs nq [] ny ++ own) := by
  unfold Ct
  k_fill
  intro p loose mean mg mb dp un gd env outer A₀ base h₀ L m s Q E B F X N T hf hk hdp hun htk hx hret
  obtain ⟨⟨_, _, _, _, _, _, _, _⟩, ⟨_, _, _, _, _, _, _, _⟩, _, _, _, _, _, _, _, _⟩ := nd9 ok.nd
  dsimp only [lexLed, List.cons_append, List.nil_append] at N
  refine codeAny_with_toks htk ?_
  k_dflt ktr_enter
  refine gentoks2 (Nat.le_trans htk (Nat.le_add_right _ _)) ?_
  intro tk htk1
  k_steps
  unfold Hold
  k_dflt (refine' ct_useA ((lam_lex (by assumption) _ _ _ _ _ _ _ (by assumption)).1) trivial ?_; k_whole; intro _ _ _ _ _ N' _ hp9; obtain ⟨⟨_, e1⟩, e2⟩ := hp9; subst e1; subst e2; (try dsimp only [lexLed, List.cons_append, List.nil_append] at N'); (try k_sweep))
  k_steps
  all_goals first
    | (exfalso; have hc := nil10 (by assumption); exact hc)
    | exact hret _ _ _ _ (by k_asm) (by k_asm) (by assumption) ⟨⟨_, rfl⟩, rfl⟩
end Mine
end SRead2
section SGen2
open PySem PySem.W PyProof.Rows PySem.Calls
set_option Elab.async false
set_option maxRecDepth 100000
set_option maxHeartbeats 8000000
set_option pp.maxSteps 400
set_option autoImplicit false
namespace Mine
section
variable {w : World} {p : Program} {loose : List Str} {mean : ExcName → Option Value} {mg mb : Str → Option Value} {dp un : Nat} {gd : Option (List Code)} {env : Env} {outer : List Env} {A₀ : Around} {base h₀ : Heap} {L : Addr} {m : Str → Option Value} {s : Shared} {E : Value → Shared → Prop}
  {a : LexA} {line : Int} {u tS : Tok} {nq ny : Nat} {I q : Addr} {own : List (Addr × Obj)}
/-- the iterator over the lexer's signs, and the lexer, on the ledger -/
abbrev ciLed (a : LexA) (I q : Addr) (tS : Tok) (over : Bool) (line : Int) (u : Tok) (nq : Nat) (ys : List (PySem.Str × Tok)) (ny : Nat) (own : List (Addr × Obj)) : List (Addr × Obj) :=
  (I, if over then ciObj .none .none true else ciObj (.ref q) (.str (S []) tS) false) :: (q, methodObj (.ref 52) (.ref a.x)) :: (lexLed a line u [] nq ys ny ++ own)
theorem ci_perm {I q : Addr} {oI oq : Obj} {l own : List (Addr × Obj)} (x : Addr × Obj) : x ∈ (I, oI) :: (q, oq) :: (l ++ own) ↔ x ∈ l ++ ((I, oI) :: (q, oq) :: own) := by
  constructor
  · intro h
    rcases List.mem_cons.mp h with h | h
    · rw [h]; exact List.mem_append_right _ (.head _)
    · rcases List.mem_cons.mp h with h | h
      · rw [h]; exact List.mem_append_right _ (.tail _ (.head _))
      · rcases List.mem_append.mp h with h | h
        · exact List.mem_append_left _ h
        · exact List.mem_append_right _ (.tail _ (.tail _ h))
  · intro h
    rcases List.mem_append.mp h with h | h
    · exact .tail _ (.tail _ (List.mem_append_left _ h))
    · rcases List.mem_cons.mp h with h | h
      · rw [h]; exact .head _
      · rcases List.mem_cons.mp h with h | h
        · rw [h]; exact .tail _ (.head _)
        · exact .tail _ (.tail _ (List.mem_append_right _ h))
theorem next_some (ok : LexOk w a) {ys : List (PySem.Str × Tok)} {c : Nat} {ty : Tok} {Q : Option Value → Shared → Prop} (hoff : OwnOff own a.adrs) (hI : ∀ b ∈ a.adrs, I ≠ b) (hq : ∀ b ∈ a.adrs, q ≠ b) (hys : ys.length ≤ 100000)
    (B : Below A₀ base outer h₀) (F : Fr h₀ L s.heap m) (X : (hd.heap_39 w.params).In h₀) (N : News h₀ L s.heap (ciLed a I q tS false line u nq (ys ++ [(S [c], ty)]) ny own)) (T : Top p loose mean mg mb h₀) (hf : env.frame = some L) (hk : env.scope.kind = .function) (hdp : dp + 30 < recursionLimit) (hu : un + 300 < cLine) (ht : 1 ≤ s.toks)
    (ret : ∀ h' tk' u', Fr h₀ L h' m → News h₀ L h' (ciLed a I q tS false (if c = 10 then line + 1 else line) u' nq ys (ny + 1) own) → 1 ≤ tk' → Q (some (.str (S [c]) ty)) { s with heap := h', toks := tk' }) :
    wpAny (model PySem.Challenge.rw_rw0051_02.row.prog w) (cT dp un gd env outer) (pyNext (.ref I)) Q E s := by
  obtain ⟨oc, od, fd, sl, hlk⟩ : ∃ oc od fd sl, (hd.heap_39 w.params).lookup 52 = some ⟨oc, od, .func fd, sl⟩ := ⟨_, _, _, _, rfl⟩
  have off2 : OwnOff ((I, ciObj (.ref q) (.str (S []) tS) false) :: (q, methodObj (.ref 52) (.ref a.x)) :: own) a.adrs := off_cons hI (off_cons hq hoff)
  refine ci_next_item (N _ (.head _)).1 (N _ (.tail _ (.head _))).1 (F.keep _ _ (X _ _ hlk)) fun E' => ?_
  refine codeAny_mono (ct_read1 w a ok line u [] nq ny _ off2 ys c ty hys p loose mean mg mb dp (un + 1) gd env outer A₀ base h₀ L m s
    (fun v s' => ∃ c' l tv, v = .str (S (c' :: l)) tv ∧ s'.heap.get? I = some (ciObj (.ref q) (.str (S []) tS) false) ∧ Q (some (.str (S (c' :: l)) tv)) s') E' B F X (cb_drop N fun x hx => (ci_perm x).mpr hx) T hf hk (by omega) (by omega) ht trivial
    (fun r h' tk' n' F' N' ht' hP => ?_)) fun r s' h => h
  obtain ⟨rfl, u', rfl⟩ := hP
  have N2 : News h₀ L h' (ciLed a I q tS false (if c = 10 then line + 1 else line) u' nq ys (ny + 1) own) := cb_drop N' fun x hx => (ci_perm x).mp hx
  exact ⟨c, [], ty, rfl, (N2 _ (.head _)).1, ret h' tk' u' F' N2 ht'⟩
theorem next_none (ok : LexOk w a) {Q : Option Value → Shared → Prop} (hoff : OwnOff own a.adrs) (hI : ∀ b ∈ a.adrs, I ≠ b) (hq : ∀ b ∈ a.adrs, q ≠ b) (hIq : I ≠ q) (hIo : ∀ x ∈ own, x.1 ≠ I)
    (B : Below A₀ base outer h₀) (F : Fr h₀ L s.heap m) (X : (hd.heap_39 w.params).In h₀) (N : News h₀ L s.heap (ciLed a I q tS false line u nq [] ny own)) (T : Top p loose mean mg mb h₀) (hf : env.frame = some L) (hk : env.scope.kind = .function) (hdp : dp + 30 < recursionLimit) (hu : un + 300 < cLine) (ht : 1 ≤ s.toks)
    (ret : ∀ h' tk', Fr h₀ L h' m → News h₀ L h' (ciLed a I q tS true line u nq [] ny own) → 1 ≤ tk' → Q none { s with heap := h', toks := tk' }) :
    wpAny (model PySem.Challenge.rw_rw0051_02.row.prog w) (cT dp un gd env outer) (pyNext (.ref I)) Q E s := by
  obtain ⟨oc, od, fd, sl, hlk⟩ : ∃ oc od fd sl, (hd.heap_39 w.params).lookup 52 = some ⟨oc, od, .func fd, sl⟩ := ⟨_, _, _, _, rfl⟩
  have off2 : OwnOff ((I, ciObj (.ref q) (.str (S []) tS) false) :: (q, methodObj (.ref 52) (.ref a.x)) :: own) a.adrs := off_cons hI (off_cons hq hoff)
  refine ci_next_end rfl (N _ (.head _)).1 (N _ (.tail _ (.head _))).1 (F.keep _ _ (X _ _ hlk)) fun E' => ?_
  refine codeAny_mono (ct_read0 w a ok line u [] nq ny _ off2 p loose mean mg mb dp (un + 1) gd env outer A₀ base h₀ L m s
    (fun v s' => ∃ tv, v = .str (S []) tv ∧ s'.heap.get? I = some (ciObj (.ref q) (.str (S []) tS) false) ∧ s'.heap.get? q = some (methodObj (.ref 52) (.ref a.x)) ∧ s'.heap.get? 52 = some ⟨oc, od, .func fd, sl⟩ ∧
          (∀ h', h'.get? I = some (ciObj .none .none true) → (∀ b o, b ≠ I → s'.heap.get? b = some o → h'.get? b = some o) → Q none { s' with heap := h' })) E' B F X (cb_drop N fun x hx => (ci_perm x).mpr hx) T hf hk (by omega) (by omega) ht trivial
    (fun r h' tk' n' F' N' ht' hP => ?_)) fun r s' h => h
  obtain ⟨⟨t', rfl⟩, rfl⟩ := hP
  have N2 : News h₀ L h' (ciLed a I q tS false line u nq [] ny own) := cb_drop N' fun x hx => (ci_perm x).mp hx
  have zI := N2 _ (.head _)
  refine ⟨t', rfl, zI.1, (N2 _ (.tail _ (.head _))).1, F'.keep _ _ (X _ _ hlk), fun h2 hI2 hk2 => ret h2 tk' ?_ ?_ ht'⟩
  · obtain ⟨oL, es, ep, hL, r⟩ := F'.ns
    refine ⟨⟨oL, es, ep, hk2 _ _ (Ne.symm zI.2.1) hL, r⟩, fun b o e => hk2 b o (fun q => ?_) (F'.keep b o e), F'.above⟩
    have := zI.2.2; rw [← q, e] at this; cases this
  · intro x hx
    rcases List.mem_cons.mp hx with rfl | hx
    · exact ⟨hI2, zI.2⟩
    · have hxN := N2 x (.tail _ hx)
      refine ⟨hk2 _ _ ?_ hxN.1, hxN.2⟩
      rcases List.mem_cons.mp hx with rfl | hx
      · exact Ne.symm hIq
      · rcases List.mem_append.mp hx with hx | hx
        · have : x.1 ∈ a.adrs := by
            repeat (rcases List.mem_cons.mp hx with rfl | hx; · (repeat first | exact List.Mem.head _ | refine List.Mem.tail _ ?_))
            cases hx
          exact Ne.symm (hI _ this)
        · exact hIo x hx
theorem next_over {Q : Option Value → Shared → Prop} {ys : List (PySem.Str × Tok)} (F : Fr h₀ L s.heap m) (N : News h₀ L s.heap (ciLed a I q tS true line u nq ys ny own))
    (ret : ∀ h', Fr h₀ L h' m → News h₀ L h' (ciLed a I q tS true line u nq ys ny own) → Q none { s with heap := h' }) :
    wpAny (model PySem.Challenge.rw_rw0051_02.row.prog w) (cT dp un gd env outer) (pyNext (.ref I)) Q E s :=
  ci_next_over rfl (N _ (.head _)).1 fun h' hk => ret h' (F.keeps hk) fun x hx => ⟨hk _ _ (N x hx).1, (N x hx).2⟩
end
end Mine
end SGen2
section SLoop2
open PySem PySem.W PyProof.Rows PySem.Calls
set_option Elab.async false
set_option maxRecDepth 100000
set_option maxHeartbeats 8000000
set_option pp.maxSteps 400
set_option autoImplicit false
namespace Mine
abbrev gm (x I : Addr) (tok : List Nat) (t : Tok) (m₂ : PySem.Str → Option Value) : PySem.Str → Option Value :=
  fun y => if y = ("token" : PySem.Str) then some (.str (S tok) t) else if y = ("self" : PySem.Str) then some (.ref x) else if y = ("fiter" : PySem.Str) then some (.ref I) else m₂ y
theorem gm_of {m : PySem.Str → Option Value} {x I : Addr} {tok : List Nat} {t : Tok} (h1 : m ("token" : PySem.Str) = some (.str (S tok) t)) (h2 : m ("self" : PySem.Str) = some (.ref x)) (h3 : m ("fiter" : PySem.Str) = some (.ref I)) : m = gm x I tok t m := by
  funext y
  show m y = if y = ("token" : PySem.Str) then some (.str (S tok) t) else if y = ("self" : PySem.Str) then some (.ref x) else if y = ("fiter" : PySem.Str) then some (.ref I) else m y
  by_cases e1 : y = ("token" : PySem.Str)
  · rw [if_pos e1, e1, h1]
  · rw [if_neg e1]
    by_cases e2 : y = ("self" : PySem.Str)
    · rw [if_pos e2, e2, h2]
    · rw [if_neg e2]
      by_cases e3 : y = ("fiter" : PySem.Str)
      · rw [if_pos e3, e3, h3]
      · rw [if_neg e3]
/-- where the reading of a token stands: the signs l unread, the token tok -/
def CiSt (a : LexA) (I q : Addr) (tS : Tok) (nq : Nat) (own : List (Addr × Obj)) (h₀ : Heap) (L : Addr) (C : Int) (over : Bool) (l tok : List Nat) (s s' : Shared) : Prop :=
  ∃ h' tk m₂ t ys ny u line, s' = { s with heap := h', toks := tk } ∧ 1 ≤ tk ∧ Fr h₀ L h' (gm a.x I tok t m₂) ∧ News h₀ L h' (ciLed a I q tS over line u nq ys ny own) ∧ ys.map (·.1) = ones l.reverse ∧ line + (l.count 10 : Nat) = C
theorem ones_snoc {ys : List (PySem.Str × Tok)} {c : Nat} {l : List Nat} (h : ys.map (·.1) = ones (c :: l).reverse) : ∃ ys' ty, ys = ys' ++ [(S [c], ty)] ∧ ys'.map (·.1) = ones l.reverse := by
  have e : ones (c :: l).reverse = ones l.reverse ++ [S [c]] := by simp [ones]
  rw [e] at h
  obtain ⟨a, b, rfl, h1, h2⟩ := List.map_eq_append_iff.mp h
  obtain ⟨y, r, rfl, h3, h4⟩ := List.map_eq_cons_iff.mp h2
  have : r = [] := List.map_eq_nil_iff.mp h4
  subst this
  obtain ⟨y1, y2⟩ := y
  simp only at h3
  subst h3
  exact ⟨a, y2, rfl, h1⟩
section
variable {w : World} {p : Program} {loose : List Str} {mean : ExcName → Option Value} {mg mb : Str → Option Value} {dp un : Nat} {gd : Option (List Code)} {env : Env} {outer : List Env} {A₀ : Around} {base h₀ : Heap} {s : Shared} {E : Value → Shared → Prop}
  {a : LexA} {tS : Tok} {nq : Nat} {I q : Addr} {own : List (Addr × Obj)} {C : Int}
/-- what a turn of a loop over the signs leaves behind -/
def CiTurn (a : LexA) (I q : Addr) (tS : Tok) (nq : Nat) (own : List (Addr × Obj)) (h₀ : Heap) (L : Addr) (C : Int) (Inv : List Nat → List Nat → Prop) (InvO : List Nat → Prop) (Q : Flow → Shared → Prop) (s : Shared) (k : Nat) (f : Flow) (s₃ : Shared) : Prop := match f with
  | .ret v => Q (.ret v) s₃
  | .brk => Q .next s₃
  | _ => (∃ l' tok', l'.length ≤ k ∧ Inv l' tok' ∧ CiSt a I q tS nq own h₀ L C false l' tok' s s₃) ∨ (∃ tok', InvO tok' ∧ CiSt a I q tS nq own h₀ L C true [] tok' s s₃)
theorem ci_loop {Inv : List Nat → List Nat → Prop} {InvO : List Nat → Prop} {Q : Flow → Shared → Prop} {body : List Stmt} {px : Pos} (ok : LexOk w a) (hoff : OwnOff own a.adrs) (hI : ∀ b ∈ a.adrs, I ≠ b) (hq : ∀ b ∈ a.adrs, q ≠ b) (hIq : I ≠ q) (hIo : ∀ x ∈ own, x.1 ≠ I)
    (B : Below A₀ base outer h₀) (X : (hd.heap_39 w.params).In h₀) (T : Top p loose mean mg mb h₀) (hf : env.frame = some env.locals) (hk : env.scope.kind = .function) (hdp : dp + 30 < recursionLimit) (hu : un + 300 < cLine)
    (hx : env.kindOf "ch" = some .local) (hpp : (env.scope.kind == .class || (env.scope.kind == .module && env.locals != env.globals)) = false)
    {l₀ tok₀ : List Nat} (hlen : l₀.length ≤ 100000) (hinv : Inv l₀ tok₀) (hst : CiSt a I q tS nq own h₀ env.locals C false l₀ tok₀ s s)
    (turn : ∀ c l tok tc (h : Heap) tk m₂ t ys ny u line, l.length ≤ 100000 → Inv (c :: l) tok → 1 ≤ tk → Fr h₀ env.locals h (fun y => if y = ("ch" : PySem.Str) then some (.str (S [c]) tc) else gm a.x I tok t m₂ y) → News h₀ env.locals h (ciLed a I q tS false line u nq ys ny own) → ys.map (·.1) = ones l.reverse → line + (l.count 10 : Nat) = C →
      ∀ E', wpAny (model PySem.Challenge.rw_rw0051_02.row.prog w) (cT dp un gd env outer) (execs body env) (CiTurn a I q tS nq own h₀ env.locals C Inv InvO Q s l.length) E' { s with heap := h, toks := tk })
    (fin : ∀ tok s', (Inv [] tok ∨ InvO tok) → CiSt a I q tS nq own h₀ env.locals C true [] tok s s' → Q .next s') :
    codeAny (model PySem.Challenge.rw_rw0051_02.row.prog w) (cT dp un gd env outer) (.forLoop (.Name "ch" px) (.ref I) body [] env) (fun r s' => match r with | .ok f => Q f s' | .error e => E e s') s := by
  refine codeAny_forLoop (fun n s' => (∃ l tok, Inv l tok ∧ CiSt a I q tS nq own h₀ env.locals C false l tok s s' ∧ n = l.length + 1 ∧ l.length ≤ 100000) ∨ (∃ tok, InvO tok ∧ CiSt a I q tS nq own h₀ env.locals C true [] tok s s' ∧ n = 0)) ?_ (l₀.length + 1) (.inl ⟨l₀, tok₀, hinv, hst, rfl, hlen⟩)
  rintro n s' (⟨l, tok, hi, ⟨h', tk, m₂, t, ys, ny, u, line, rfl, htk, F, N, hys, hC⟩, rfl, hl⟩ | ⟨tok, hi, ⟨h', tk, m₂, t, ys, ny, u, line, rfl, htk, F, N, hys, hC⟩, rfl⟩)
  · cases l with
    | nil =>
      have hys' : ys = [] := List.map_eq_nil_iff (f := Prod.fst).mp (by rw [hys]; rfl)
      subst hys'
      refine next_none ok hoff hI hq hIq hIo B F X N T hf hk hdp hu htk fun h2 tk2 F2 N2 ht2 => wpAny_execs_nil ?_
      exact fin tok _ (.inl hi) ⟨h2, tk2, m₂, t, [], ny, u, line, rfl, ht2, F2, N2, rfl, hC⟩
    | cons c l =>
      obtain ⟨ys', ty, rfl, hys'⟩ := ones_snoc hys
      have hl' : l.length ≤ 100000 := by simp at hl; omega
      have hyl : ys'.length ≤ 100000 := by
        have := congrArg List.length hys'
        simp [ones] at this; omega
      refine next_some ok hoff hI hq hyl B F X N T hf hk hdp hu htk fun h2 tk2 u2 F2 N2 ht2 => ?_
      refine wpAny_assign_Name (wpAny_storeName_local hx F2.ns (fun h3 hn3 hs3 => ?_) hpp)
      have hC' : (if c = 10 then line + 1 else line) + (l.count 10 : Nat) = C := by
        rw [← hC, List.count_cons]
        by_cases e : c = 10
        · subst e; simp; omega
        · have : (c == 10) = false := by simpa using e
          simp [e]
      refine wpAny_mono (turn c l tok ty h3 (tk2 + 1) m₂ t ys' (ny + 1) u2 _ hl' hi (by omega) (F2.set hn3 hs3) (N2.set hs3) hys' hC' _) (fun f s₃ hT => ?_) fun _ _ e => e
      have go : ((∃ l' tok', l'.length ≤ l.length ∧ Inv l' tok' ∧ CiSt a I q tS nq own h₀ env.locals C false l' tok' s s₃) ∨ (∃ tok', InvO tok' ∧ CiSt a I q tS nq own h₀ env.locals C true [] tok' s s₃)) →
          ∃ m, m < (c :: l).length + 1 ∧ ((∃ l tok, Inv l tok ∧ CiSt a I q tS nq own h₀ env.locals C false l tok s s₃ ∧ m = l.length + 1 ∧ l.length ≤ 100000) ∨ (∃ tok, InvO tok ∧ CiSt a I q tS nq own h₀ env.locals C true [] tok s s₃ ∧ m = 0)) := by
        rintro (⟨l', tok', h1, h2, h3⟩ | ⟨tok', h1, h2⟩)
        · exact ⟨l'.length + 1, by simp; omega, .inl ⟨l', tok', h2, h3, rfl, by omega⟩⟩
        · exact ⟨0, by simp, .inr ⟨tok', h1, h2, rfl⟩⟩
      cases f with
      | ret v => exact hT
      | brk => exact hT
      | next => exact go hT
      | cont => exact go hT
  · refine next_over F N fun h2 F2 N2 => wpAny_execs_nil ?_
    exact fin tok _ (.inr hi) ⟨h2, tk, m₂, t, ys, ny, u, line, rfl, htk, F2, N2, hys, hC⟩
end
end Mine
end SLoop2
section SGetA2
open PySem PySem.W PyProof.Rows PySem.Calls
set_option Elab.async false
set_option maxRecDepth 100000
set_option maxHeartbeats 8000000
set_option pp.maxSteps 400
set_option autoImplicit false
namespace Mine
/-- a char is read, or none is left, with an iterator under way -/
theorem ct_readC (w : World) (a : LexA) (ok : LexOk w a) (line : Int) (u tS : Tok) (nq ny : Nat) (I q : Addr) (own : List (Addr × Obj)) (hoff : OwnOff own a.adrs) (hI : ∀ b ∈ a.adrs, I ≠ b) (hq : ∀ b ∈ a.adrs, q ≠ b) (l : List Nat) (ys : List (PySem.Str × Tok)) (hys : ys.map (·.1) = ones l.reverse) (hl : l.length ≤ 100000) :
    Ct w 20 200 52 [.ref a.x] (ciLed a I q tS false line u nq ys ny own) True
      (fun r n' => ∃ t' u' ny' ys', r = .str (S (l.take 1)) t' ∧ ys'.map (·.1) = ones (l.drop 1).reverse ∧ n' = ciLed a I q tS false (line + ((l.take 1).count 10 : Nat)) u' nq ys' ny' own) := by
  have off2 : OwnOff ((I, ciObj (.ref q) (.str (S []) tS) false) :: (q, methodObj (.ref 52) (.ref a.x)) :: own) a.adrs := off_cons hI (off_cons hq hoff)
  cases l with
  | nil =>
    have hys' : ys = [] := List.map_eq_nil_iff (f := Prod.fst).mp (by rw [hys]; rfl)
    subst hys'
    refine (ct_read0 w a ok line u [] nq ny _ off2).perm (fun x hx => (ci_perm x).mpr hx) fun r n hP => ⟨ciLed a I q tS false line u nq [] ny own, fun x hx => ?_, ?_⟩
    · rw [hP.2]; exact (ci_perm x).mp hx
    · obtain ⟨⟨t', e⟩, _⟩ := hP
      exact ⟨t', u, ny, [], e, rfl, by simp⟩
  | cons c l =>
    obtain ⟨ys', ty, rfl, hys'⟩ := ones_snoc hys
    have hyl : ys'.length ≤ 100000 := by
      have := congrArg List.length hys'
      simp [ones] at this hl; omega
    refine (ct_read1 w a ok line u [] nq ny _ off2 ys' c ty hyl).perm (fun x hx => (ci_perm x).mpr hx) fun r n hP => ?_
    obtain ⟨e, u', e2⟩ := hP
    refine ⟨ciLed a I q tS false (if c = 10 then line + 1 else line) u' nq ys' (ny + 1) own, fun x hx => ?_, ty, u', ny + 1, ys', e, hys', ?_⟩
    · rw [e2]; exact (ci_perm x).mp hx
    · have : (line + (([c].count 10 : Nat) : Int)) = if c = 10 then line + 1 else line := by
        by_cases h : c = 10
        · subst h; simp
        · have hc : (c == 10) = false := by simpa using h
          rw [if_neg h, List.count_cons, hc]; simp
      show _ = ciLed a I q tS false (line + (([c].count 10 : Nat) : Int)) u' nq ys' (ny + 1) own
      rw [this]
def ws (c : Nat) : Bool := c == 10 || c == 9 || c == 13 || c == 32
/-- the rest of a word without quotation marks -/
def runA : List Nat → List Nat → List Nat × List Nat
  | tok, [] => (tok, [])
  | tok, c :: r => if ws c then (tok, r) else if c = 92 then (match r with | [] => (tok, []) | d :: r' => runA (tok ++ [d]) r') else runA (tok ++ [c]) r
/-- the rest of a word in quotation marks -/
def runQ : List Nat → List Nat → List Nat × List Nat
  | tok, [] => (tok, [])
  | tok, c :: r => if c = 34 then (tok, r) else if c = 92 then (match r with | [] => (tok, []) | d :: r' => runQ (tok ++ [d]) r') else runQ (tok ++ [c]) r
/-- a token: the text's first word and what is left -/
def lexTok : List Nat → List Nat × List Nat
  | [] => ([], [])
  | c :: r => if ws c then lexTok r else if c = 34 then runQ [] r else if c = 92 then runA (r.take 1) (r.drop 1) else runA [c] r
def loopsOf (K : Frag) : Option (PySem.Str × Scope × Value × Stmt × Stmt × Stmt) := match K.lookup 59 with
  | some ⟨_, _, .func ⟨_, q, _, .stmts [_, _, _, fo, _], sc, _, _, _, _, _, _, _, cd, _, _⟩, _⟩ => (match fo with
    | .For _ _ [_, .If _ [fq] [_, _, fa] _] _ _ => some (q, sc, cd, fo, fq, fa)
    | _ => none)
  | _ => none
section
variable {w : World} {p : Program} {loose : List Str} {mean : ExcName → Option Value} {mg mb : Str → Option Value} {dp un : Nat} {gd : Option (List Code)} {outer : List Env} {A₀ : Around} {base h₀ : Heap} {L : Addr} {s : Shared} {E : Value → Shared → Prop}
  {a : LexA} {tS : Tok} {nq : Nat} {I q : Addr} {own : List (Addr × Obj)} {C : Int} {m : PySem.Str → Option Value}
theorem ci_pyIter {Q : Value → Shared → Prop} {o1 o2 : Value} {b : Bool} {A : Around} {prog : Program} (hI : s.heap.get? I = some (ciObj o1 o2 b)) (h : Q (.ref I) s) : wpAny (model prog w) A (pyIter (.ref I)) Q E s := by
  refine wpAny_pyIter_slot (ci_type hI) slot_ci_iter (wpAny_call_entry slot_ci_iter (ci_type hI) entry_ci_iter ?_ (args_ci_iter _))
  show wpAny _ _ (ret (.ref I)) _ _ s
  exact wpAny_pure ⟨_, rfl, "callable_iterator", _, ci_type hI, slot_ci_next.lookup, h⟩
theorem ci_for {fa : Addr} {qn : PySem.Str} {sc : Scope} {cd : Value} {Inv : List Nat → List Nat → Prop} {InvO : List Nat → Prop} {Q : Flow → Shared → Prop} {body : List Stmt} {px pf pos : Pos} {t u : Tok} {line : Int} {ys : List (PySem.Str × Tok)} {ny : Nat} (ok : LexOk w a) (hoff : OwnOff own a.adrs) (hI : ∀ b ∈ a.adrs, I ≠ b) (hq : ∀ b ∈ a.adrs, q ≠ b) (hIq : I ≠ q) (hIo : ∀ x ∈ own, x.1 ≠ I)
    (B : Below A₀ base outer h₀) (F : Fr h₀ L s.heap m) (X : (hd.heap_39 w.params).In h₀) (N : News h₀ L s.heap (ciLed a I q tS false line u nq ys ny own)) (T : Top p loose mean mg mb h₀) (hk : sc.kind = .function) (hdp : dp + 30 < recursionLimit) (hu : un + 300 < cLine) (ht : 1 ≤ s.toks)
    (hx : (envOf qn sc L fa cd).kindOf "ch" = some .local) (hx2 : (envOf qn sc L fa cd).kindOf "fiter" = some .local)
    {l₀ tok₀ : List Nat} (hlen : l₀.length ≤ 100000) (hinv : Inv l₀ tok₀) (h1 : m ("token" : PySem.Str) = some (.str (S tok₀) t)) (h2 : m ("self" : PySem.Str) = some (.ref a.x)) (h3 : m ("fiter" : PySem.Str) = some (.ref I)) (hys : ys.map (·.1) = ones l₀.reverse) (hC : line + (l₀.count 10 : Nat) = C)
    (turn : ∀ c l tok tc (h : Heap) tk m₂ t ys ny u line, l.length ≤ 100000 → Inv (c :: l) tok → 1 ≤ tk → Fr h₀ L h (fun y => if y = ("ch" : PySem.Str) then some (.str (S [c]) tc) else gm a.x I tok t m₂ y) → News h₀ L h (ciLed a I q tS false line u nq ys ny own) → ys.map (·.1) = ones l.reverse → line + (l.count 10 : Nat) = C →
      ∀ E', wpAny (model PySem.Challenge.rw_rw0051_02.row.prog w) (cT dp un gd (envOf qn sc L fa cd) outer) (execs body (envOf qn sc L fa cd)) (CiTurn a I q tS nq own h₀ L C Inv InvO Q s l.length) E' { s with heap := h, toks := tk })
    (fin : ∀ tok s', (Inv [] tok ∨ InvO tok) → CiSt a I q tS nq own h₀ L C true [] tok s s' → Q .next s')
    (hs : ∀ v, foldedSetIterable (.Name "fiter" pf) (envOf qn sc L fa cd) v = pure v) :
    wpAny (model PySem.Challenge.rw_rw0051_02.row.prog w) (cT dp un gd (envOf qn sc L fa cd) outer) (exec (.For (.Name "ch" px) (.Name "fiter" pf) body [] pos) (envOf qn sc L fa cd)) Q E s := by
  refine wpAny_For ?_ hs
  refine ld F h3 ?_ hk hx2
  refine ci_pyIter (N _ (.head _)).1 ?_
  exact ci_loop (env := envOf qn sc L fa cd) ok hoff hI hq hIq hIo B X T rfl hk hdp hu hx (by show (sc.kind == .class || (sc.kind == .module && L != mainGlobals)) = false; rw [hk]; rfl) hlen hinv
    ⟨s.heap, s.toks, m, t, ys, ny, u, line, rfl, ht, gm_of h1 h2 h3 ▸ F, N, hys, hC⟩ turn fin
theorem ci_end {Inv : List Nat → List Nat → Prop} {InvO : List Nat → Prop} {Q : Flow → Shared → Prop} {h' : Heap} {tk k : Nat} {t u : Tok} {ys : List (PySem.Str × Tok)} {ny : Nat} {line : Int} {l tok : List Nat} (F : Fr h₀ L h' m) (N : News h₀ L h' (ciLed a I q tS false line u nq ys ny own)) (htk : 1 ≤ tk)
    (h1 : m ("token" : PySem.Str) = some (.str (S tok) t)) (h2 : m ("self" : PySem.Str) = some (.ref a.x)) (h3 : m ("fiter" : PySem.Str) = some (.ref I)) (hys : ys.map (·.1) = ones l.reverse) (hC : line + (l.count 10 : Nat) = C) (hl : l.length ≤ k) (hi : Inv l tok) :
    CiTurn a I q tS nq own h₀ L C Inv InvO Q s k .next { s with heap := h', toks := tk } :=
  .inl ⟨l, tok, hl, hi, h', tk, m, t, ys, ny, u, line, rfl, htk, gm_of h1 h2 h3 ▸ F, N, hys, hC⟩
end
end Mine
end SGetA2
section SGetB2
namespace Mine
theorem fresh5 : True := by
  w_top off
  trivial
end Mine
open PySem PySem.W PyProof.Rows PySem.Calls
set_option Elab.async false
set_option maxRecDepth 100000
set_option maxHeartbeats 8000000
set_option pp.maxSteps 400
set_option autoImplicit false
namespace Mine
theorem of_bs : PySem.Str.ofString "\\" = S [92] := by decide +kernel
theorem eq92 {c : Nat} (h : (S [c] == PySem.Str.ofString "\\") = true) : c = 92 := by
  rw [of_bs] at h
  simpa using S_inj (beq_iff_eq.mp h)
theorem ne92 {c : Nat} (h : (S [c] == PySem.Str.ofString "\\") = false) : ¬ c = 92 := fun e => by
  subst e; rw [of_bs] at h; simp at h
theorem eq34 {c : Nat} (h : (S [c] == PySem.Str.ofString "\"") = true) : c = 34 := by
  rw [of_quot] at h
  simpa using S_inj (beq_iff_eq.mp h)
theorem ne34 {c : Nat} (h : (S [c] == PySem.Str.ofString "\"") = false) : ¬ c = 34 := fun e => by
  subst e; rw [of_quot] at h; simp at h
theorem iaddS {prog : Program} {w : World} {A : Around} {s : Shared} {Q : Value → Shared → Prop} {E : Value → Shared → Prop} {x y : List Nat} {t u : Tok} (hk : 1 ≤ s.toks) (hsz : x.length + y.length ≤ 1000000) (h : ∀ t' k, 1 ≤ k → Q (.str (S (x ++ y)) t') { s with toks := k }) : wpAny (model prog w) A (inplaceOp .Add (.str (S x) t) (.str (S y) u)) Q E s := by
  have hz : (S x).length + (S y).length ≤ sizeLine := by rw [S_len, S_len, sizeLine_eq]; omega
  refine wpAny_mono (wpAny_toks_of (n := 1) (Q := fun v s' => ∃ t' k, v = .str (S (x ++ y)) t' ∧ s' = { s with toks := k }) (E := E) hk (PyProof.Rows.iadd_str (fun t' k => ⟨t', k, by rw [S_append], rfl⟩) hz)) (fun v s' hv => ?_) fun _ _ e => e.2
  obtain ⟨hk', t', k, rfl, rfl⟩ := hv
  exact h t' k hk'
theorem runQ_quot (tok l : List Nat) : runQ tok (34 :: l) = (tok, l) := by cases l <;> rfl
theorem runQ_esc (tok l : List Nat) : runQ tok (92 :: l) = runQ (tok ++ l.take 1) (l.drop 1) := by
  cases l with
  | nil => simp only [List.take_nil, List.drop_nil, List.append_nil]; rfl
  | cons d r => rfl
theorem runQ_char {c : Nat} (h1 : ¬ c = 34) (h2 : ¬ c = 92) (tok l : List Nat) : runQ tok (c :: l) = runQ (tok ++ [c]) l := by cases l <;> simp [runQ, h1, h2]
theorem runA_esc (tok l : List Nat) : runA tok (92 :: l) = runA (tok ++ l.take 1) (l.drop 1) := by
  cases l with
  | nil => simp only [List.take_nil, List.drop_nil, List.append_nil]; rfl
  | cons d r => rfl
theorem runA_ws {c : Nat} (h : ws c = true) (tok l : List Nat) : runA tok (c :: l) = (tok, l) := by cases l <;> simp [runA, h]
theorem runA_char {c : Nat} (h1 : ws c = false) (h2 : ¬ c = 92) (tok l : List Nat) : runA tok (c :: l) = runA (tok ++ [c]) l := by cases l <;> simp [runA, h1, h2]
theorem cnt_drop {line C : Int} {l : List Nat} (h : line + (l.count 10 : Nat) = C) : line + ((l.take 1).count 10 : Nat) + ((l.drop 1).count 10 : Nat) = C := by
  have : l.count 10 = (l.take 1).count 10 + (l.drop 1).count 10 := by rw [← List.count_append, List.take_append_drop]
  rw [this] at h
  omega
local macro_rules | `(tactic| walk_at "inplaceOp Add str str") => `(tactic| (k_here; k_dflt (refine' iaddS (by first | assumption | (dsimp only; omega)) (by first | assumption | (simp only [List.length_cons, List.length_nil, List.length_append, List.length_take] at *; omega)) ?_; k_whole; intro _ _ _)))
local macro_rules | `(tactic| walk_at "call ref") => `(tactic| (k_here; (try dsimp only [List.cons_append, List.nil_append]); (with_reducible show wpAny _ _ (call (Value.ref 52) [Value.ref _]) _ _ _); k_dflt
  (refine' ct_useA (N := by first | k_asm | k_dflt assumption) (ct_readC _ _ ?ok _ _ _ _ _ _ _ _ ?off ?hI ?hq _ _ ?hys ?hl) trivial ?_; (case ok => assumption); (case off => assumption); (case hI => assumption); (case hq => assumption); (case hys => assumption); (case hl => assumption); k_whole; intro _ _ _ _ _ N' _ hp9; obtain ⟨_, _, _, _, e1, _, e2⟩ := hp9; subst e1; subst e2; (simp only [ciLed, lexLed, List.cons_append, List.nil_append, Bool.false_eq_true, if_false] at N'); (try k_sweep))))
section
variable {w : World} {p : Program} {loose : List Str} {mean : ExcName → Option Value} {mg mb : Str → Option Value} {dp un : Nat} {gd : Option (List Code)} {outer : List Env} {A₀ : Around} {base h₀ : Heap} {L : Addr} {s : Shared} {E : Value → Shared → Prop}
  {a : LexA} {tS : Tok} {nq : Nat} {I q : Addr} {own : List (Addr × Obj)} {C : Int} {m : PySem.Str → Option Value}
theorem ciSt_of {over : Bool} {h' : Heap} {tk : Nat} {t u : Tok} {ys : List (PySem.Str × Tok)} {ny : Nat} {line : Int} {l tok : List Nat} (F : Fr h₀ L h' m) (N : News h₀ L h' (ciLed a I q tS over line u nq ys ny own)) (htk : 1 ≤ tk)
    (h1 : m ("token" : PySem.Str) = some (.str (S tok) t)) (h2 : m ("self" : PySem.Str) = some (.ref a.x)) (h3 : m ("fiter" : PySem.Str) = some (.ref I)) (hys : ys.map (·.1) = ones l.reverse) (hC : line + (l.count 10 : Nat) = C) :
    CiSt a I q tS nq own h₀ L C over l tok s { s with heap := h', toks := tk } :=
  ⟨h', tk, m, t, ys, ny, u, line, rfl, htk, gm_of h1 h2 h3 ▸ F, N, hys, hC⟩
theorem inner_Q {fo fq fa : Stmt} {qn : PySem.Str} {sc : Scope} {cd : Value} {Q : Flow → Shared → Prop} {t u : Tok} {line : Int} {ys : List (PySem.Str × Tok)} {ny : Nat} (hlo : loopsOf (hd.heap_39 w.params) = some (qn, sc, cd, fo, fq, fa)) {l₀ tok₀ : List Nat}
    (hret : ∀ t s', CiSt a I q tS nq own h₀ L C false (runQ tok₀ l₀).2 (runQ tok₀ l₀).1 s s' → Q (.ret (.str (S (runQ tok₀ l₀).1) t)) s')
    (hend : ∀ s', (runQ tok₀ l₀).2 = [] → CiSt a I q tS nq own h₀ L C true [] (runQ tok₀ l₀).1 s s' → Q .next s')
    (F : Fr h₀ L s.heap m) (N : News h₀ L s.heap (ciLed a I q tS false line u nq ys ny own)) (ok : LexOk w a) (hoff : OwnOff own a.adrs) (hI : ∀ b ∈ a.adrs, I ≠ b) (hq : ∀ b ∈ a.adrs, q ≠ b) (hIq : I ≠ q) (hIo : ∀ x ∈ own, x.1 ≠ I) (B : Below A₀ base outer h₀) (X : (hd.heap_39 w.params).In h₀) (T : Top p loose mean mg mb h₀) (hdp : dp + 60 < recursionLimit) (hu : un + 600 < cLine) (ht : 1 ≤ s.toks) (h1 : m ("token" : PySem.Str) = some (.str (S tok₀) t)) (h2 : m ("self" : PySem.Str) = some (.ref a.x)) (h3 : m ("fiter" : PySem.Str) = some (.ref I)) (hys : ys.map (·.1) = ones l₀.reverse) (hC : line + (l₀.count 10 : Nat) = C) (hlen : l₀.length ≤ 100000) (htl : tok₀.length + l₀.length ≤ 200000) :
    wpAny (model PySem.Challenge.rw_rw0051_02.row.prog w) (cT dp un gd (envOf qn sc L 59 cd) outer) (exec fq (envOf qn sc L 59 cd)) Q E s := by
  revert hlo; k_fill; intro hlo
  have e : loopsOf (hd.heap_39 w.params) = some (_, _, _, _, _, _) := rfl
  rw [e] at hlo; cases hlo; clear e
  refine ci_for (Inv := fun l tok => runQ tok l = runQ tok₀ l₀ ∧ tok.length + l.length ≤ 200000) (InvO := fun _ => False) ok hoff hI hq hIq hIo B F X N T rfl (by omega) (by omega) ht rfl rfl hlen ⟨rfl, htl⟩ h1 h2 h3 hys hC ?turn ?fin (fun v => rfl)
  case fin =>
    rintro tok s' (⟨hi, _⟩ | hi) hS
    · have : runQ tok₀ l₀ = (tok, []) := hi.symm
      rw [this] at hend
      exact hend s' rfl hS
    · exact hi.elim
  case turn =>
    intro c l tok tc h tk m₂ t ys ny u line hl ⟨hi, hti⟩ htk F2 N2 hys hC E'
    clear F N
    dsimp only [gm] at F2
    simp only [ciLed, lexLed, List.cons_append, List.nil_append, Bool.false_eq_true, if_false] at N2
    k_steps
    · have hc := eq34 (by assumption)
      subst hc
      rw [runQ_quot] at hi
      rw [← hi] at hret
      exact hret _ _ (ciSt_of (by k_asm) (by k_dflt assumption) (by assumption) (by rfl) (by rfl) (by rfl) (by assumption) hC)
    · have hc := eq92 (by assumption)
      subst hc
      rw [runQ_esc] at hi
      exact ci_end (by k_asm) (by k_dflt assumption) (by assumption) (by rfl) (by rfl) (by rfl) (by assumption) (cnt_drop hC) (by simp) ⟨hi, by simp at *; omega⟩
    · have hc := ne92 (by assumption)
      have hc2 := ne34 (by assumption)
      rw [runQ_char hc2 hc] at hi
      exact ci_end (by k_asm) (by k_dflt assumption) (by assumption) (by rfl) (by rfl) (by rfl) (by assumption) hC (by omega) ⟨hi, by simp at *; omega⟩
end
end Mine
end SGetB2
section SEsc2
namespace Mine
theorem fresh6 : True := by
  w_top off
  trivial
end Mine
open PySem PySem.W PyProof.Rows PySem.Calls
set_option Elab.async false
set_option maxRecDepth 100000
set_option maxHeartbeats 8000000
set_option pp.maxSteps 400
set_option autoImplicit false
namespace Mine
def esc0 : List (Nat × List Nat) := [(38, [38,97,109,112,59]), (60, [38,108,116,59]), (62, [38,103,116,59])]
def esc1 : List (Nat × List Nat) := [(38, [38,97,109,112,59]), (60, [38,108,116,59]), (62, [38,103,116,59]), (34, [38,113,117,111,116,59]), (13, [38,35,49,51,59]), (10, [38,35,49,48,59]), (9, [38,35,48,57,59])]
def esc2 : List (Nat × List Nat) := [(38, [38,97,109,112,59]), (62, [38,103,116,59]), (34, [38,113,117,111,116,59])]
def esc3 : List (Nat × List Nat) := [(38, [38,97,109,112,59]), (60, [38,108,116,59]), (62, [38,103,116,59]), (13, [38,35,120,68,59])]
def esc4 : List (Nat × List Nat) := [(38, [38,97,109,112,59]), (60, [38,108,116,59]), (34, [38,113,117,111,116,59]), (9, [38,35,120,57,59]), (10, [38,35,120,65,59]), (13, [38,35,120,68,59])]
local macro_rules | `(tactic| walk_at "exec If") => `(tactic| (k_here; k_dflt ((refine' esc_ifN (by k_asm) (by k_asm) ?km (by first | assumption | (dsimp only; omega)) ?hl ?hrs ?hr ?hcr ?ec ?er ?_ (fun _ _ h => MethodCall_ h) (by rfl) (by rfl) (by rfl) (by decide)); (case km => exact rfl); (case ec => first | exact of_amp | exact of_lt | exact of_gt | exact of_quot | exact of_cr | exact of_lf | exact of_tab); (case er => first | exact of_e0 | exact of_e1 | exact of_e2 | exact of_e3 | exact of_e4 | exact of_e5 | exact of_e6 | exact of_e7 | exact of_e8 | exact of_e9); (case hrs => decide +kernel); (case hr => decide); (case hcr => decide +kernel); (case hl => omega); k_whole; (intro _ _ _ F' _ _); (try dsimp only [List.nil_append, List.cons_append] at F'); k_sweep)))
theorem ct_esc0 (w : World) (l : List Nat) (t : Tok) (news) : Ct w 20 200 104 [.str (S (repN [] l)) t] news (l.length ≤ 100000) (fun r n' => n' = news ∧ ∃ t', r = .str (S (repN esc0 l)) t') := by
  unfold Ct
  k_fill
  intro p loose mean mg mb dp un gd env outer A₀ base h₀ L m s Q E B F X N T hf hk hdp hun htk hx hret
  k_dflt ktr_enter
  refine gentoks2 (Nat.le_trans htk (Nat.le_add_right _ _)) ?_
  intro tk htk1
  k_steps
  all_goals exact hret _ _ _ _ (by k_asm) (by k_asm) (by assumption) ⟨rfl, _, rfl⟩
theorem ct_esc1 (w : World) (l : List Nat) (t : Tok) (news) : Ct w 20 200 111 [.str (S (repN [] l)) t] news (l.length ≤ 100000) (fun r n' => n' = news ∧ ∃ t', r = .str (S (repN esc1 l)) t') := by
  unfold Ct
  k_fill
  intro p loose mean mg mb dp un gd env outer A₀ base h₀ L m s Q E B F X N T hf hk hdp hun htk hx hret
  k_dflt ktr_enter
  refine gentoks2 (Nat.le_trans htk (Nat.le_add_right _ _)) ?_
  intro tk htk1
  k_steps
  all_goals exact hret _ _ _ _ (by k_asm) (by k_asm) (by assumption) ⟨rfl, _, rfl⟩
theorem ct_esc2 (w : World) (l : List Nat) (t : Tok) (news) : Ct w 20 200 118 [.str (S (repN [] l)) t] news (l.length ≤ 100000) (fun r n' => n' = news ∧ ∃ t', r = .str (S (repN esc2 l)) t') := by
  unfold Ct
  k_fill
  intro p loose mean mg mb dp un gd env outer A₀ base h₀ L m s Q E B F X N T hf hk hdp hun htk hx hret
  k_dflt ktr_enter
  refine gentoks2 (Nat.le_trans htk (Nat.le_add_right _ _)) ?_
  intro tk htk1
  k_steps
  all_goals exact hret _ _ _ _ (by k_asm) (by k_asm) (by assumption) ⟨rfl, _, rfl⟩
theorem ct_esc3 (w : World) (l : List Nat) (t : Tok) (news) : Ct w 20 200 125 [.str (S (repN [] l)) t] news (l.length ≤ 100000) (fun r n' => n' = news ∧ ∃ t', r = .str (S (repN esc3 l)) t') := by
  unfold Ct
  k_fill
  intro p loose mean mg mb dp un gd env outer A₀ base h₀ L m s Q E B F X N T hf hk hdp hun htk hx hret
  k_dflt ktr_enter
  refine gentoks2 (Nat.le_trans htk (Nat.le_add_right _ _)) ?_
  intro tk htk1
  k_steps
  all_goals exact hret _ _ _ _ (by k_asm) (by k_asm) (by assumption) ⟨rfl, _, rfl⟩
theorem ct_esc4 (w : World) (l : List Nat) (t : Tok) (news) : Ct w 20 200 132 [.str (S (repN [] l)) t] news (l.length ≤ 100000) (fun r n' => n' = news ∧ ∃ t', r = .str (S (repN esc4 l)) t') := by
  unfold Ct
  k_fill
  intro p loose mean mg mb dp un gd env outer A₀ base h₀ L m s Q E B F X N T hf hk hdp hun htk hx hret
  k_dflt ktr_enter
  refine gentoks2 (Nat.le_trans htk (Nat.le_add_right _ _)) ?_
  intro tk htk1
  k_steps
  all_goals exact hret _ _ _ _ (by k_asm) (by k_asm) (by assumption) ⟨rfl, _, rfl⟩
end Mine
end SEsc2
section SWr2
open PySem PySem.W PyProof.Rows PySem.Calls
set_option Elab.async false
set_option maxRecDepth 100000
set_option maxHeartbeats 8000000
set_option pp.maxSteps 400
set_option autoImplicit false
namespace Mine
def escFn (h : Nat) : Addr := [104, 111, 118, 125, 132].getD h 0
def escOf (h : Nat) : List (Nat × List Nat) := [esc0, esc1, esc2, esc3, esc4].getD h []
theorem ct_write (w : World) (h : Nat) (h5 : h < 5) (l : List Nat) (t : Tok) (news : List (Addr × Obj)) : Ct w 20 200 (escFn h) [.str (S l) t] news (l.length ≤ 100000) (fun r n' => n' = news ∧ ∃ t', r = .str (S (repN (escOf h) l)) t') := by
  rcases h with _ | _ | _ | _ | _ | h
  · exact ct_esc0 w l t news
  · exact ct_esc1 w l t news
  · exact ct_esc2 w l t news
  · exact ct_esc3 w l t news
  · exact ct_esc4 w l t news
  · omega
/-- an escape and its names agree -/
structure Agree (rs : List (Nat × List Nat)) (tab : List (PySem.Str × PySem.Str)) : Prop where
  one : ∀ c, c ≠ 10 → c ≠ 13 → repN rs [c] = spell tab 1 c
  name : ∀ c x, nameAt tab (S [c]) = some x → x.cps.toList.flatMap (fun a => repN rs [a]) = x.cps.toList
  plain : ∀ c ∈ [46, 97, 109, 112, 59], repN rs [c] = [c]
  amp : repN rs [38] = [38, 97, 109, 112, 59]
theorem nameAt_none {tab : List (PySem.Str × PySem.Str)} {k : PySem.Str} (h : ∀ p ∈ tab, p.1 ≠ k) : nameAt tab k = none := by
  unfold nameAt
  rw [List.find?_eq_none.mpr (fun p hp => by simpa using h p hp)]; rfl
theorem flat_id {f : Nat → List Nat} : ∀ {l : List Nat}, (∀ c ∈ l, f c = [c]) → l.flatMap f = l
  | [], _ => rfl
  | c :: l, h => by rw [List.flatMap_cons, h c (.head _), flat_id fun a ha => h a (.tail _ ha)]; rfl
theorem agree_of {rs : List (Nat × List Nat)} {tab : List (PySem.Str × PySem.Str)} {ks : List Nat} (hk : ∀ c, c ∈ rs.map (·.1) → c = 10 ∨ c = 13 ∨ c ∈ ks) (ht : ∀ p ∈ tab, ∃ c, p.1 = S [c] ∧ c ∈ ks) (h1 : ∀ c ∈ ks, repN rs [c] = spell tab 1 c) (h2 : ∀ p ∈ tab, p.2.cps.toList.flatMap (fun a => repN rs [a]) = p.2.cps.toList)
    (h3 : ∀ c ∈ [46, 97, 109, 112, 59], repN rs [c] = [c]) (h4 : repN rs [38] = [38, 97, 109, 112, 59]) : Agree rs tab where
  one := fun c h10 h13 => by
    by_cases hc : c ∈ ks
    · exact h1 c hc
    · have e1 : c ∉ rs.map (·.1) := fun hm => by
        rcases hk c hm with h | h | h
        · exact h10 h
        · exact h13 h
        · exact hc h
      have e2 : nameAt tab (S [c]) = none := nameAt_none fun p hp e => by
        obtain ⟨c', e', hc'⟩ := ht p hp
        rw [e'] at e
        have := S_inj e
        simp at this
        exact hc (this ▸ hc')
      rw [repN_other e1, spell_none e2]
  name := fun c x hx => by
    unfold nameAt at hx
    cases hq : tab.find? (fun p => p.1 = S [c]) with
    | none => rw [hq] at hx; cases hx
    | some p => rw [hq] at hx; cases hx; exact h2 p (List.mem_of_find?_eq_some hq)
  plain := h3
  amp := h4
theorem agree (h : Nat) (h5 : h < 5) : Agree (escOf h) (nmTab (h : Int)) := by
  rcases h with _ | _ | _ | _ | _ | h
  · exact agree_of (ks := [38, 60, 62]) (by decide +kernel) (by intro p hp; revert p hp; show ∀ p ∈ [_, _, _], _; simp only [List.forall_mem_cons]; exact ⟨⟨38, of_amp, by decide⟩, ⟨60, of_lt, by decide⟩, ⟨62, of_gt, by decide⟩, fun _ h => nomatch h⟩) (by decide +kernel) (by decide +kernel) (by decide +kernel) (by decide +kernel)
  · exact agree_of (ks := [38, 60, 62, 34, 9]) (by decide +kernel) (by intro p hp; revert p hp; show ∀ p ∈ [_, _, _, _, _], _; simp only [List.forall_mem_cons]; exact ⟨⟨38, of_amp, by decide⟩, ⟨60, of_lt, by decide⟩, ⟨62, of_gt, by decide⟩, ⟨34, of_quot, by decide⟩, ⟨9, of_tab, by decide⟩, fun _ h => nomatch h⟩) (by decide +kernel) (by decide +kernel) (by decide +kernel) (by decide +kernel)
  · exact agree_of (ks := [38, 62, 34]) (by decide +kernel) (by intro p hp; revert p hp; show ∀ p ∈ [_, _, _], _; simp only [List.forall_mem_cons]; exact ⟨⟨38, of_amp, by decide⟩, ⟨62, of_gt, by decide⟩, ⟨34, of_quot, by decide⟩, fun _ h => nomatch h⟩) (by decide +kernel) (by decide +kernel) (by decide +kernel) (by decide +kernel)
  · exact agree_of (ks := [38, 60, 62]) (by decide +kernel) (by intro p hp; revert p hp; show ∀ p ∈ [_, _, _], _; simp only [List.forall_mem_cons]; exact ⟨⟨38, of_amp, by decide⟩, ⟨60, of_lt, by decide⟩, ⟨62, of_gt, by decide⟩, fun _ h => nomatch h⟩) (by decide +kernel) (by decide +kernel) (by decide +kernel) (by decide +kernel)
  · exact agree_of (ks := [38, 60, 34, 9]) (by decide +kernel) (by intro p hp; revert p hp; show ∀ p ∈ [_, _, _, _], _; simp only [List.forall_mem_cons]; exact ⟨⟨38, of_amp, by decide⟩, ⟨60, of_lt, by decide⟩, ⟨34, of_quot, by decide⟩, ⟨9, of_tab, by decide⟩, fun _ h => nomatch h⟩) (by decide +kernel) (by decide +kernel) (by decide +kernel) (by decide +kernel)
  · omega
end Mine
end SWr2
section SGetC2
namespace Mine
theorem fresh7 : True := by
  w_top off
  trivial
end Mine
open PySem PySem.W PyProof.Rows PySem.Calls
set_option Elab.async false
set_option maxRecDepth 100000
set_option maxHeartbeats 8000000
set_option pp.maxSteps 400
set_option autoImplicit false
namespace Mine
theorem of_ws : PySem.Str.ofString "\n\t\r " = S [10, 9, 13, 32] := by decide +kernel
theorem ws_is (c : Nat) : (Builtin.Str.occurrences (PySem.Str.ofString "\n\t\r ") (S [c]) 0 (PySem.Str.ofString "\n\t\r ").length 1).isEmpty = !ws c := by
  have h := in_S c [10, 9, 13, 32]
  rw [← of_ws] at h
  rw [← Bool.not_not (List.isEmpty _), h]
  congr 1
  simp only [ws, List.mem_cons, List.not_mem_nil, or_false, Bool.decide_or, Bool.or_assoc]
  rfl
theorem ws_no {c : Nat} (h : (Builtin.Str.occurrences (PySem.Str.ofString "\n\t\r ") (S [c]) 0 (PySem.Str.ofString "\n\t\r ").length 1).isEmpty = true) : ws c = false := by
  rw [ws_is] at h; simpa using h
theorem ws_yes {c : Nat} (h : (Builtin.Str.occurrences (PySem.Str.ofString "\n\t\r ") (S [c]) 0 (PySem.Str.ofString "\n\t\r ").length 1).isEmpty = false) : ws c = true := by
  rw [ws_is] at h; simpa using h
local macro_rules | `(tactic| walk_at "inplaceOp Add str str") => `(tactic| (k_here; k_dflt (refine' iaddS (by first | assumption | (dsimp only; omega)) (by first | assumption | (simp only [List.length_cons, List.length_nil, List.length_append, List.length_take] at *; omega)) ?_; k_whole; intro _ _ _)))
local macro_rules | `(tactic| walk_at "call ref") => `(tactic| (k_here; (try dsimp only [List.cons_append, List.nil_append]); (with_reducible show wpAny _ _ (call (Value.ref 52) [Value.ref _]) _ _ _); k_dflt
  (refine' ct_useA (N := by first | k_asm | k_dflt assumption) (ct_readC _ _ ?ok _ _ _ _ _ _ _ _ ?off ?hI ?hq _ _ ?hys ?hl) trivial ?_; (case ok => assumption); (case off => assumption); (case hI => assumption); (case hq => assumption); (case hys => assumption); (case hl => assumption); k_whole; intro _ _ _ _ _ N' _ hp9; obtain ⟨_, _, _, _, e1, _, e2⟩ := hp9; subst e1; subst e2; (simp only [ciLed, lexLed, List.cons_append, List.nil_append, Bool.false_eq_true, if_false] at N'); (try k_sweep))))
section
variable {w : World} {p : Program} {loose : List Str} {mean : ExcName → Option Value} {mg mb : Str → Option Value} {dp un : Nat} {gd : Option (List Code)} {outer : List Env} {A₀ : Around} {base h₀ : Heap} {L : Addr} {s : Shared} {E : Value → Shared → Prop}
  {a : LexA} {tS : Tok} {nq : Nat} {I q : Addr} {own : List (Addr × Obj)} {C : Int} {m : PySem.Str → Option Value}
theorem inner_A {fo fq fa : Stmt} {qn : PySem.Str} {sc : Scope} {cd : Value} {Q : Flow → Shared → Prop} {t u : Tok} {line : Int} {ys : List (PySem.Str × Tok)} {ny : Nat} (hlo : loopsOf (hd.heap_39 w.params) = some (qn, sc, cd, fo, fq, fa)) {l₀ tok₀ : List Nat}
    (hret : ∀ t s', CiSt a I q tS nq own h₀ L C false (runA tok₀ l₀).2 (runA tok₀ l₀).1 s s' → Q (.ret (.str (S (runA tok₀ l₀).1) t)) s')
    (hend : ∀ s', (runA tok₀ l₀).2 = [] → CiSt a I q tS nq own h₀ L C true [] (runA tok₀ l₀).1 s s' → Q .next s')
    (F : Fr h₀ L s.heap m) (N : News h₀ L s.heap (ciLed a I q tS false line u nq ys ny own)) (ok : LexOk w a) (hoff : OwnOff own a.adrs) (hI : ∀ b ∈ a.adrs, I ≠ b) (hq : ∀ b ∈ a.adrs, q ≠ b) (hIq : I ≠ q) (hIo : ∀ x ∈ own, x.1 ≠ I) (B : Below A₀ base outer h₀) (X : (hd.heap_39 w.params).In h₀) (T : Top p loose mean mg mb h₀) (hdp : dp + 60 < recursionLimit) (hu : un + 600 < cLine) (ht : 1 ≤ s.toks) (h1 : m ("token" : PySem.Str) = some (.str (S tok₀) t)) (h2 : m ("self" : PySem.Str) = some (.ref a.x)) (h3 : m ("fiter" : PySem.Str) = some (.ref I)) (hys : ys.map (·.1) = ones l₀.reverse) (hC : line + (l₀.count 10 : Nat) = C) (hlen : l₀.length ≤ 100000) (htl : tok₀.length + l₀.length ≤ 200000) :
    wpAny (model PySem.Challenge.rw_rw0051_02.row.prog w) (cT dp un gd (envOf qn sc L 59 cd) outer) (exec fa (envOf qn sc L 59 cd)) Q E s := by
  revert hlo; k_fill; intro hlo
  have e : loopsOf (hd.heap_39 w.params) = some (_, _, _, _, _, _) := rfl
  rw [e] at hlo; cases hlo; clear e
  refine ci_for (Inv := fun l tok => runA tok l = runA tok₀ l₀ ∧ tok.length + l.length ≤ 200000) (InvO := fun _ => False) ok hoff hI hq hIq hIo B F X N T rfl (by omega) (by omega) ht rfl rfl hlen ⟨rfl, htl⟩ h1 h2 h3 hys hC ?turn ?fin (fun v => rfl)
  case fin =>
    rintro tok s' (⟨hi, _⟩ | hi) hS
    · have : runA tok₀ l₀ = (tok, []) := hi.symm
      rw [this] at hend
      exact hend s' rfl hS
    · exact hi.elim
  case turn =>
    intro c l tok tc h tk m₂ t ys ny u line hl ⟨hi, hti⟩ htk F2 N2 hys hC E'
    clear F N
    dsimp only [gm] at F2
    simp only [ciLed, lexLed, List.cons_append, List.nil_append, Bool.false_eq_true, if_false] at N2
    k_steps
    · have hc := eq92 (by assumption)
      subst hc
      rw [runA_esc] at hi
      exact ci_end (by k_asm) (by k_dflt assumption) (by assumption) (by rfl) (by rfl) (by rfl) (by assumption) (cnt_drop hC) (by simp) ⟨hi, by simp at *; omega⟩
    · have hc := ne92 (by assumption)
      have hc2 := ws_no (by assumption)
      rw [runA_char hc2 hc] at hi
      exact ci_end (by k_asm) (by k_dflt assumption) (by assumption) (by rfl) (by rfl) (by rfl) (by assumption) hC (by omega) ⟨hi, by simp at *; omega⟩
    · have hc := ws_yes (by assumption)
      rw [runA_ws hc] at hi
      rw [← hi] at hret
      exact hret _ _ (ciSt_of (by k_asm) (by k_dflt assumption) (by assumption) (by rfl) (by rfl) (by rfl) (by assumption) hC)
end
end Mine
end SGetC2
section SLam2
namespace Mine
theorem fresh8 : True := by
  w_top off
  trivial
end Mine
open PySem PySem.W PyProof.Rows PySem.Calls
set_option Elab.async false
set_option maxRecDepth 100000
set_option maxHeartbeats 8000000
set_option pp.maxSteps 400
set_option autoImplicit false
namespace Mine
local macro_rules | `(tactic| walk_at "eval Name") => `(tactic| (k_here; (with_reducible show wpAny _ _ (eval (PySem.Expr.Name (PySem.Str.ofString "signs") _) _) _ _ _); k_dflt (refine' nameX_F (by k_asm) (by exact rfl) (by k_mem) (by assumption) ?_ (by rfl) (by rfl); k_whole)))
local macro_rules | `(tactic| walk_at "compareOp NotEq ref ref") => `(tactic| (k_here; k_dflt (refine' ne_lens (by k_asm) (by k_mem) (by k_mem) (by simp [strValues]) (by ktr_units) ?_; k_whole)))
local macro_rules | `(tactic| walk_at "call builtin:list.pop") => `(tactic| (refine Mine.Hold.out ?_))
def lamOf (K : Frag) : Option (Arguments × Expr × Scope) := match K.lookup 139 with
  | some ⟨_, _, .func fd, _⟩ => (match fd.body with
    | .stmts (_ :: _ :: .Assign _ (.Lambda a b sc _) _ :: _) => some (a, b, sc)
    | _ => none)
  | _ => none
theorem lam_gen (w : World) (a : Arguments) (b : Expr) (sc : Scope) (hl : lamOf (hd.heap_39 w.params) = some (a, b, sc)) (q : PySem.Str) (pm ct : Value) (lam cell cc : Addr) (vs : Array Value) (tq : Tok) (CO : Obj) (d1 : CO.data = .fields vs) (d2 : vs[1]? = some (.str q tq)) :
    LamSpec w lam cell (kla_obj "<lambda>" q a b sc [("signs", cell)] pm cc ct) cc CO := by
  have e : lamOf (hd.heap_39 w.params) = some (_, _, _) := rfl
  rw [e] at hl
  cases hl
  clear e
  intro sg SO nn t own hso hoff n1 n2 n3
  constructor
  · unfold Ct
    k_fill
    intro p loose mean mg mb dp un gd env outer A₀ base h₀ L m s Q E B F X N T hf hk hdp hun htk hx hret
    refine codeAny_with_toks htk ?_
    k_dflt (refine' kla_code (by k_asm) (by k_asm) (by k_asm) (by k_asm) (by k_asm) (by exact rfl) (by first | assumption | exact rfl) (by first | assumption | exact rfl) (by k_mem) (by exact codeRec_news (by k_asm) (by k_mem) (by assumption) (by assumption)) (by k_room) (by exact rfl) (by exact locs rfl) ?_ (by exact rfl) (by exact rfl) (by exact rfl) (by decide); k_whole; intro _ _ _ _ _ _ _ _ _; (try dsimp only); (try k_fold))
    k_steps
    all_goals exact hret _ _ _ _ (by k_asm) (cb_drop (by assumption) (by k_allIn)) (by assumption) ⟨⟨_, rfl⟩, rfl⟩
  · intro ys y ty hys
    unfold Ct
    k_fill
    intro p loose mean mg mb dp un gd env outer A₀ base h₀ L m s Q E B F X N T hf hk hdp hun htk hx hret
    refine codeAny_with_toks htk ?_
    k_dflt (refine' kla_code (by k_asm) (by k_asm) (by k_asm) (by k_asm) (by k_asm) (by exact rfl) (by first | assumption | exact rfl) (by first | assumption | exact rfl) (by k_mem) (by exact codeRec_news (by k_asm) (by k_mem) (by assumption) (by assumption)) (by k_room) (by exact rfl) (by exact locs rfl) ?_ (by exact rfl) (by exact rfl) (by exact rfl) (by decide); k_whole; intro _ _ _ _ _ _ _ _ _; (try dsimp only); (try k_fold))
    k_steps
    unfold Hold
    k_dflt (refine' kl_pop (by k_asm) (by k_asm) ?kez1 ?kUz1 ?kzz1 ?_; (case kUz1 => k_upd); (case kez1 => exact last_strs _ _ _); (case kzz1 => simp [strValues, sizeLine_eq]; omega); k_whole; intro _ _ _; (try k_sweep))
    k_steps
    all_goals exact hret _ _ _ _ (by k_asm) (cb_drop (by assumption) (by k_allIn)) (by assumption) ⟨rfl, rfl⟩
end Mine
end SLam2
section SMk2
namespace Mine
theorem fresh9 : True := by
  w_top off
  trivial
end Mine
open PySem PySem.W PyProof.Rows PySem.Calls
set_option Elab.async false
set_option maxRecDepth 100000
set_option maxHeartbeats 8000000
set_option pp.maxSteps 400
set_option autoImplicit false
namespace Mine
local macro_rules | `(tactic| walk_at "call type:list cons nil") => `(tactic| (refine Mine.Hold.out ?_))
theorem mk_fin {own : List (Addr × Obj)} {L1 D d1 x1 c f d2 x2 l2 : Nat} {o : Obj} (h134 : 134 < L1) (hL : AllLt L1 own) (h1 : L1 + 1 < D) (h2 : D < d1) (h3 : d1 < x1) (h4 : x1 < c) (h6 : c < f) (h7 : f < d2) (h8 : d2 < x2) (h9 : x2 < l2) :
    ([x2, d2, l2, x1, d1, f, c, L1 + 1, D] : List Nat).Nodup ∧ OwnOff ((134, o) :: own) [x2, d2, l2, x1, d1, f, c, L1 + 1, D] := by
  have g0 : L1 < L1 + 1 := Nat.lt_succ_self L1
  have l01 := h1
  have l02 := Nat.lt_trans l01 h2
  have l03 := Nat.lt_trans l02 h3
  have l04 := Nat.lt_trans l03 h4
  have l05 := Nat.lt_trans l04 h6
  have l06 := Nat.lt_trans l05 h7
  have l07 := Nat.lt_trans l06 h8
  have l08 := Nat.lt_trans l07 h9
  have l12 := h2
  have l13 := Nat.lt_trans l12 h3
  have l14 := Nat.lt_trans l13 h4
  have l15 := Nat.lt_trans l14 h6
  have l16 := Nat.lt_trans l15 h7
  have l17 := Nat.lt_trans l16 h8
  have l18 := Nat.lt_trans l17 h9
  have l23 := h3
  have l24 := Nat.lt_trans l23 h4
  have l25 := Nat.lt_trans l24 h6
  have l26 := Nat.lt_trans l25 h7
  have l27 := Nat.lt_trans l26 h8
  have l28 := Nat.lt_trans l27 h9
  have l34 := h4
  have l35 := Nat.lt_trans l34 h6
  have l36 := Nat.lt_trans l35 h7
  have l37 := Nat.lt_trans l36 h8
  have l38 := Nat.lt_trans l37 h9
  have l45 := h6
  have l46 := Nat.lt_trans l45 h7
  have l47 := Nat.lt_trans l46 h8
  have l48 := Nat.lt_trans l47 h9
  have l56 := h7
  have l57 := Nat.lt_trans l56 h8
  have l58 := Nat.lt_trans l57 h9
  have l67 := h8
  have l68 := Nat.lt_trans l67 h9
  have l78 := h9
  constructor
  · simp only [List.nodup_cons, List.mem_cons, List.not_mem_nil, or_false, not_or, not_false_eq_true, List.nodup_nil, and_true]
    exact ⟨⟨Nat.ne_of_gt l67, Nat.ne_of_lt l78, Nat.ne_of_gt l37, Nat.ne_of_gt l27, Nat.ne_of_gt l57, Nat.ne_of_gt l47, Nat.ne_of_gt l07, Nat.ne_of_gt l17⟩, ⟨Nat.ne_of_lt l68, Nat.ne_of_gt l36, Nat.ne_of_gt l26, Nat.ne_of_gt l56, Nat.ne_of_gt l46, Nat.ne_of_gt l06, Nat.ne_of_gt l16⟩, ⟨Nat.ne_of_gt l38, Nat.ne_of_gt l28, Nat.ne_of_gt l58, Nat.ne_of_gt l48, Nat.ne_of_gt l08, Nat.ne_of_gt l18⟩, ⟨Nat.ne_of_gt l23, Nat.ne_of_lt l35, Nat.ne_of_lt l34, Nat.ne_of_gt l03, Nat.ne_of_gt l13⟩, ⟨Nat.ne_of_lt l25, Nat.ne_of_lt l24, Nat.ne_of_gt l02, Nat.ne_of_gt l12⟩, ⟨Nat.ne_of_gt l45, Nat.ne_of_gt l05, Nat.ne_of_gt l15⟩, ⟨Nat.ne_of_gt l04, Nat.ne_of_gt l14⟩, Nat.ne_of_lt l01⟩
  · have key : ∀ k : Nat, k < L1 → ∀ b ∈ ([x2, d2, l2, x1, d1, f, c, L1 + 1, D] : List Nat), k ≠ b := by
      intro k hk b hb
      have g : L1 + 1 ≤ b := by
        simp only [List.mem_cons, List.not_mem_nil, or_false] at hb
        rcases hb with rfl | rfl | rfl | rfl | rfl | rfl | rfl | rfl | rfl
        · exact Nat.le_of_lt l07
        · exact Nat.le_of_lt l06
        · exact Nat.le_of_lt l08
        · exact Nat.le_of_lt l03
        · exact Nat.le_of_lt l02
        · exact Nat.le_of_lt l05
        · exact Nat.le_of_lt l04
        · exact Nat.le_refl _
        · exact Nat.le_of_lt l01
      exact Nat.ne_of_lt (Nat.lt_of_lt_of_le (Nat.lt_trans hk g0) g)
    exact off_cons (key 134 h134) fun p hp b hb => key p.1 (PySem.W.kst_ltOf hL p hp) b hb
theorem relay {h₀ h : Heap} {L a1 a2 a3 a4 a5 a6 a7 a8 a9 a10 a11 : Addr} {o1 o2 o3 o4 o5 o6 o7 o8 o9 o10 o11 : Obj} {own : List (Addr × Obj)}
    (N : News h₀ L h ((a1, o1) :: (a2, o2) :: (a3, o3) :: (a4, o4) :: (a5, o5) :: (a6, o6) :: (a7, o7) :: (a8, o8) :: (a9, o9) :: (a10, o10) :: (a11, o11) :: own)) :
    News h₀ L h ([(a2, o2), (a3, o3), (a1, o1), (a7, o7), (a8, o8), (a4, o4), (a5, o5), (a10, o10), (a9, o9)] ++ (a11, o11) :: own) := fun p hp => N p (by
  dsimp only [List.cons_append, List.nil_append] at hp ⊢
  iterate 10 (rcases List.mem_cons.mp hp with rfl | hp; · (repeat first | exact List.Mem.head _ | refine List.Mem.tail _ ?_))
  (repeat first | exact hp | refine List.Mem.tail _ ?_))
/-- the lambda's code table, once it is filled -/
def lamTab (cc : Addr) : Array Value := #[rawInt 130, rawInt 16, .ref cc]
def lamQ : PySem.Str := PySem.Str.ofString "_law_lexer" ++ PySem.Str.ofString ".<locals>." ++ PySem.Str.ofString "<lambda>"
/-- a code object of the lambda -/
def CoOk (CO : Obj) : Prop := ∃ vs tq, CO.data = .fields vs ∧ vs[1]? = some (.str lamQ tq)
theorem ct_mklexA (w : World) (l : List Nat) (t : Tok) (own : List (Addr × Obj)) :
    Ct w 20 200 139 [.str (S l) t] ((134, tabObj #[]) :: own) (l.length ≤ 100000 ∧ OwnOff own [134])
      (fun r n' => ∃ (a : LexA) (u : Tok) (nq ny : Nat) (ys : List (PySem.Str × Tok)), r = .ref a.x ∧ LexOk w a ∧ ys.map (·.1) = ones l.reverse ∧ OwnOff ((134, tabObj (lamTab a.cc)) :: own) a.adrs ∧ CoOk a.CO ∧
        n' = lexLed a 1 u [] nq ys ny ++ (134, tabObj (lamTab a.cc)) :: own) := by
  unfold Ct
  k_fill
  intro p loose mean mg mb dp un gd env outer A₀ base h₀ L m s Q E B F X N T hf hk hdp hun htk hx hret
  obtain ⟨hlen, hoff⟩ := hx
  refine codeAny_with_toks htk ?_
  k_dflt ktr_enter
  (with_reducible rename Frag.In _ _ => kX9)
  have C138 := codeHd_of_K (c := 138) (P := 134) kX9 (by rfl)
  k_steps
  unfold Hold
  (try rw [S_rev]); k_dflt (refine' list_strN (by exact rfl) (by k_asm) (by k_asm) (by first | assumption | (simp only [List.length_reverse]; omega)) ?_; k_whole; intro D' h' tk' ys' c' F' N' l1 hys; (try k_lt l1); (try k_sweep))
  k_steps
  rename_i kF9 kN9 kT9 kX9 htk9
  refine' hret _ _ _ _ kF9 (relay kN9) htk9 ⟨⟨_, _, _, _, _, _, _, _, _, ⟨_, _, _, _, 0, _, _, _, _, 0, _⟩, ⟨_, _, _, _, _, _, _, _, _, _, 0⟩, _, _, _, _, _, _, _⟩, _, _, _, _, rfl, ⟨?lam, ?so, ?nd, ⟨_, _, _, _, rfl⟩⟩, ?ys, ?off, ⟨_, _, ?d1, ?d2⟩, rfl⟩
  case so => assumption
  case ys => assumption
  case nd => exact (mk_fin (o := tabObj #[]) (by with_reducible assumption) (by with_reducible assumption) (by (try dsimp only); omega) (by (try dsimp only); omega) (by (try dsimp only); omega) (by (try dsimp only); omega) (by (try dsimp only); omega) (by (try dsimp only); omega) (by (try dsimp only); omega) (by (try dsimp only); omega)).1
  case off => exact (mk_fin (by with_reducible assumption) (by with_reducible assumption) (by (try dsimp only); omega) (by (try dsimp only); omega) (by (try dsimp only); omega) (by (try dsimp only); omega) (by (try dsimp only); omega) (by (try dsimp only); omega) (by (try dsimp only); omega) (by (try dsimp only); omega)).2
  case lam => exact lam_gen w _ _ _ (by rfl) _ _ _ _ _ _ _ _ _ (by with_reducible assumption) (by with_reducible assumption)
  case d1 => with_reducible assumption
  case d2 => assumption
theorem relayH {h₀ h : Heap} {L a1 a2 a3 a4 a5 a6 a7 a8 a9 a10 a11 : Addr} {o1 o2 o3 o4 o5 o6 o7 o8 o9 o10 o11 : Obj} {own : List (Addr × Obj)}
    (N : News h₀ L h ((a1, o1) :: (a2, o2) :: (a3, o3) :: (a4, o4) :: (a6, o6) :: (a7, o7) :: (a8, o8) :: (a9, o9) :: (a10, o10) :: (a11, o11) :: (a5, o5) :: own)) :
    News h₀ L h ([(a2, o2), (a3, o3), (a1, o1), (a7, o7), (a8, o8), (a4, o4), (a5, o5), (a10, o10), (a9, o9)] ++ (a11, o11) :: own) := fun p hp => N p (by
  dsimp only [List.cons_append, List.nil_append] at hp ⊢
  iterate 10 (rcases List.mem_cons.mp hp with rfl | hp; · (repeat first | exact List.Mem.head _ | refine List.Mem.tail _ ?_))
  (repeat first | exact hp | refine List.Mem.tail _ ?_))
theorem mk_finH {own : List (Addr × Obj)} {L1 D d1 x1 cc f d2 x2 l2 : Nat} {o : Obj} (h134 : 134 < L1) (hc1 : cc < L1) (hne : @Ne Nat 134 cc) (hL : AllLt L1 own) (hcc : OwnOff own [cc]) (h1 : L1 + 1 < D) (h2 : D < d1) (h3 : d1 < x1) (h6 : x1 < f) (h7 : f < d2) (h8 : d2 < x2) (h9 : x2 < l2) :
    ([x2, d2, l2, x1, d1, f, cc, L1 + 1, D] : List Nat).Nodup ∧ OwnOff ((134, o) :: own) [x2, d2, l2, x1, d1, f, cc, L1 + 1, D] := by
  have g0 : L1 < L1 + 1 := Nat.lt_succ_self L1
  have c0 := Nat.lt_trans hc1 g0
  have l01 := h1
  have l02 := Nat.lt_trans l01 h2
  have l03 := Nat.lt_trans l02 h3
  have l04 := Nat.lt_trans l03 h6
  have l05 := Nat.lt_trans l04 h7
  have l06 := Nat.lt_trans l05 h8
  have l07 := Nat.lt_trans l06 h9
  have l12 := h2
  have l13 := Nat.lt_trans l12 h3
  have l14 := Nat.lt_trans l13 h6
  have l15 := Nat.lt_trans l14 h7
  have l16 := Nat.lt_trans l15 h8
  have l17 := Nat.lt_trans l16 h9
  have l23 := h3
  have l24 := Nat.lt_trans l23 h6
  have l25 := Nat.lt_trans l24 h7
  have l26 := Nat.lt_trans l25 h8
  have l27 := Nat.lt_trans l26 h9
  have l34 := h6
  have l35 := Nat.lt_trans l34 h7
  have l36 := Nat.lt_trans l35 h8
  have l37 := Nat.lt_trans l36 h9
  have l45 := h7
  have l46 := Nat.lt_trans l45 h8
  have l47 := Nat.lt_trans l46 h9
  have l56 := h8
  have l57 := Nat.lt_trans l56 h9
  have l67 := h9
  have c1 := Nat.lt_trans c0 l01
  have c2 := Nat.lt_trans c0 l02
  have c3 := Nat.lt_trans c0 l03
  have c4 := Nat.lt_trans c0 l04
  have c5 := Nat.lt_trans c0 l05
  have c6 := Nat.lt_trans c0 l06
  have c7 := Nat.lt_trans c0 l07
  constructor
  · simp only [List.nodup_cons, List.mem_cons, List.not_mem_nil, or_false, not_or, not_false_eq_true, List.nodup_nil, and_true]
    exact ⟨⟨Nat.ne_of_gt l56, Nat.ne_of_lt l67, Nat.ne_of_gt l36, Nat.ne_of_gt l26, Nat.ne_of_gt l46, Nat.ne_of_gt c6, Nat.ne_of_gt l06, Nat.ne_of_gt l16⟩, ⟨Nat.ne_of_lt l57, Nat.ne_of_gt l35, Nat.ne_of_gt l25, Nat.ne_of_gt l45, Nat.ne_of_gt c5, Nat.ne_of_gt l05, Nat.ne_of_gt l15⟩, ⟨Nat.ne_of_gt l37, Nat.ne_of_gt l27, Nat.ne_of_gt l47, Nat.ne_of_gt c7, Nat.ne_of_gt l07, Nat.ne_of_gt l17⟩, ⟨Nat.ne_of_gt l23, Nat.ne_of_lt l34, Nat.ne_of_gt c3, Nat.ne_of_gt l03, Nat.ne_of_gt l13⟩, ⟨Nat.ne_of_lt l24, Nat.ne_of_gt c2, Nat.ne_of_gt l02, Nat.ne_of_gt l12⟩, ⟨Nat.ne_of_gt c4, Nat.ne_of_gt l04, Nat.ne_of_gt l14⟩, ⟨Nat.ne_of_lt c0, Nat.ne_of_lt c1⟩, Nat.ne_of_lt l01⟩
  · have key : ∀ k : Nat, k < L1 → k ≠ cc → ∀ b ∈ ([x2, d2, l2, x1, d1, f, cc, L1 + 1, D] : List Nat), k ≠ b := by
      intro k hk hkc b hb
      have g : ∀ {b : Nat}, L1 + 1 ≤ b → k ≠ b := fun h => Nat.ne_of_lt (Nat.lt_of_lt_of_le (Nat.lt_trans hk g0) h)
      simp only [List.mem_cons, List.not_mem_nil, or_false] at hb
      rcases hb with rfl | rfl | rfl | rfl | rfl | rfl | rfl | rfl | rfl
      · exact g (Nat.le_of_lt l06)
      · exact g (Nat.le_of_lt l05)
      · exact g (Nat.le_of_lt l07)
      · exact g (Nat.le_of_lt l03)
      · exact g (Nat.le_of_lt l02)
      · exact g (Nat.le_of_lt l04)
      · exact hkc
      · exact g (Nat.le_refl _)
      · exact g (Nat.le_of_lt l01)
    exact off_cons (key 134 h134 hne) fun p hp b hb => key p.1 (PySem.W.kst_ltOf hL p hp) (hcc p hp cc (.head _)) b hb
theorem ct_mklexH (w : World) (l : List Nat) (t : Tok) (cc : Addr) (CO : Obj) (own : List (Addr × Obj)) :
    Ct w 20 200 139 [.str (S l) t] ((134, tabObj (lamTab cc)) :: (cc, CO) :: own) (l.length ≤ 100000 ∧ OwnOff own [134] ∧ OwnOff own [cc] ∧ @Ne Nat 134 cc ∧ CoOk CO)
      (fun r n' => ∃ (a : LexA) (u : Tok) (nq ny : Nat) (ys : List (PySem.Str × Tok)), r = .ref a.x ∧ LexOk w a ∧ ys.map (·.1) = ones l.reverse ∧ OwnOff ((134, tabObj (lamTab cc)) :: own) a.adrs ∧ a.cc = cc ∧ a.CO = CO ∧
        n' = lexLed a 1 u [] nq ys ny ++ (134, tabObj (lamTab cc)) :: own) := by
  unfold Ct
  k_fill
  intro p loose mean mg mb dp un gd env outer A₀ base h₀ L m s Q E B F X N T hf hk hdp hun htk hx hret
  obtain ⟨hlen, hoff, hcc, hne, vs9, tq9, hd9, hv9⟩ := hx
  unfold lamTab at N
  refine codeAny_with_toks htk ?_
  k_dflt ktr_enter
  (with_reducible rename Frag.In _ _ => kX9)
  have C138 := codeHd_of_K (c := 138) (P := 134) kX9 (by rfl)
  k_steps
  unfold Hold
  (try rw [S_rev]); k_dflt (refine' list_strN (by exact rfl) (by k_asm) (by k_asm) (by first | assumption | (simp only [List.length_reverse]; omega)) ?_; k_whole; intro D' h' tk' ys' c' F' N' l1 hys; (try k_lt l1); (try k_sweep))
  k_steps
  rename_i kF9 kN9 kT9 kX9 htk9
  refine' hret _ _ _ _ kF9 (relayH kN9) htk9 ⟨⟨_, _, _, _, _, _, _, _, _, ⟨_, _, _, _, 0, _, _, _, _, 0, _⟩, ⟨_, _, _, _, _, _, _, _, _, _, 0⟩, _, _, _, _, _, _, _⟩, _, _, _, _, rfl, ⟨?lam, ?so, ?nd, ⟨_, _, _, _, rfl⟩⟩, ?ys, ?off, rfl, rfl, rfl⟩
  case so => assumption
  case ys => assumption
  case nd => exact (mk_finH (o := tabObj #[]) (by with_reducible assumption) (by with_reducible assumption) hne (by with_reducible assumption) hcc (by (try dsimp only); omega) (by (try dsimp only); omega) (by (try dsimp only); omega) (by (try dsimp only); omega) (by (try dsimp only); omega) (by (try dsimp only); omega) (by (try dsimp only); omega)).1
  case off => exact (mk_finH (by with_reducible assumption) (by with_reducible assumption) hne (by with_reducible assumption) hcc (by (try dsimp only); omega) (by (try dsimp only); omega) (by (try dsimp only); omega) (by (try dsimp only); omega) (by (try dsimp only); omega) (by (try dsimp only); omega) (by (try dsimp only); omega)).2
  case lam => exact lam_gen w _ _ _ (by rfl) _ _ _ _ _ _ _ _ _ hd9 hv9
end Mine
end SMk2
section SGetD2
namespace Mine
theorem fresh10 : True := by
  w_top off
  trivial
end Mine
open PySem PySem.W PyProof.Rows PySem.Calls
set_option Elab.async false
set_option maxRecDepth 100000
set_option maxHeartbeats 8000000
set_option pp.maxSteps 400
set_option autoImplicit false
namespace Mine
theorem lexTok_ws {c : Nat} (h : ws c = true) (l : List Nat) : lexTok (c :: l) = lexTok l := by
  rw [lexTok, if_pos h]
theorem lexTok_quot (l : List Nat) : lexTok (34 :: l) = runQ [] l := by
  rw [lexTok]; rfl
theorem lexTok_esc (l : List Nat) : lexTok (92 :: l) = runA ([] ++ l.take 1) (l.drop 1) := by
  rw [lexTok]; rfl
theorem lexTok_char {c : Nat} (h1 : ws c = false) (h2 : ¬ c = 34) (h3 : ¬ c = 92) (l : List Nat) : lexTok (c :: l) = runA ([] ++ [c]) l := by
  rw [lexTok, if_neg (by simp [h1]), if_neg h2, if_neg h3]; rfl
local macro_rules | `(tactic| walk_at "inplaceOp Add str str") => `(tactic| (k_here; k_dflt (refine' iaddS (by first | assumption | (dsimp only; omega)) (by first | assumption | (simp only [List.length_cons, List.length_nil, List.length_append, List.length_take] at *; omega)) ?_; k_whole; intro _ _ _)))
local macro_rules | `(tactic| walk_at "call ref") => `(tactic| (k_here; (try dsimp only [List.cons_append, List.nil_append]); (with_reducible show wpAny _ _ (call (Value.ref 52) [Value.ref _]) _ _ _); k_dflt
  (refine' ct_useA (N := by first | k_asm | k_dflt assumption) (ct_readC _ _ ?ok _ _ _ _ _ _ _ _ ?off ?hI ?hq _ _ ?hys ?hl) trivial ?_; (case ok => assumption); (case off => assumption); (case hI => assumption); (case hq => assumption); (case hys => assumption); (case hl => assumption); k_whole; intro _ _ _ _ _ N' _ hp9; obtain ⟨_, _, _, _, e1, _, e2⟩ := hp9; subst e1; subst e2; (simp only [ciLed, lexLed, List.cons_append, List.nil_append, Bool.false_eq_true, if_false] at N'); (try k_sweep))))
local macro_rules | `(tactic| walk_at "exec For Name Name cons nil") => `(tactic| (refine Mine.Hold.out ?_))
section
variable {w : World} {p : Program} {loose : List Str} {mean : ExcName → Option Value} {mg mb : Str → Option Value} {dp un : Nat} {gd : Option (List Code)} {outer : List Env} {A₀ : Around} {base h₀ : Heap} {L : Addr} {s : Shared} {E : Value → Shared → Prop}
  {a : LexA} {tS : Tok} {nq : Nat} {I q : Addr} {own : List (Addr × Obj)} {C : Int} {m : PySem.Str → Option Value}
theorem outer_F {fo fq fa : Stmt} {qn : PySem.Str} {sc : Scope} {cd : Value} {Q : Flow → Shared → Prop} {t u : Tok} {line : Int} {ys : List (PySem.Str × Tok)} {ny : Nat} (hlo : loopsOf (hd.heap_39 w.params) = some (qn, sc, cd, fo, fq, fa)) (ok : LexOk w a) (hoff : OwnOff own a.adrs) (hI : ∀ b ∈ a.adrs, I ≠ b) (hq : ∀ b ∈ a.adrs, q ≠ b) (hIq : I ≠ q) (hIo : ∀ x ∈ own, x.1 ≠ I)
    (B : Below A₀ base outer h₀) (F : Fr h₀ L s.heap m) (X : (hd.heap_39 w.params).In h₀) (N : News h₀ L s.heap (ciLed a I q tS false line u nq ys ny own)) (T : Top p loose mean mg mb h₀) (hdp : dp + 60 < recursionLimit) (hu : un + 600 < cLine) (ht : 1 ≤ s.toks)
    {l₀ : List Nat} (hlen : l₀.length ≤ 100000) (h1 : m ("token" : PySem.Str) = some (.str (S []) t)) (h2 : m ("self" : PySem.Str) = some (.ref a.x)) (h3 : m ("fiter" : PySem.Str) = some (.ref I)) (hys : ys.map (·.1) = ones l₀.reverse) (hC : line + (l₀.count 10 : Nat) = C)
    (hret : ∀ t s', CiSt a I q tS nq own h₀ L C false (lexTok l₀).2 (lexTok l₀).1 s s' → Q (.ret (.str (S (lexTok l₀).1) t)) s')
    (hend : ∀ s', (lexTok l₀).2 = [] → CiSt a I q tS nq own h₀ L C true [] (lexTok l₀).1 s s' → Q .next s') :
    wpAny (model PySem.Challenge.rw_rw0051_02.row.prog w) (cT dp un gd (envOf qn sc L 59 cd) outer) (exec fo (envOf qn sc L 59 cd)) Q E s := by
  revert hlo; k_fill; intro hlo
  have e : loopsOf (hd.heap_39 w.params) = some (_, _, _, _, _, _) := rfl
  rw [e] at hlo; cases hlo; clear e
  refine ci_for (Inv := fun l tok => tok = [] ∧ lexTok l = lexTok l₀) (InvO := fun tok => lexTok l₀ = (tok, [])) ok hoff hI hq hIq hIo B F X N T rfl (by omega) (by omega) ht rfl rfl hlen ⟨rfl, rfl⟩ h1 h2 h3 hys hC ?turn ?fin (fun v => rfl)
  case fin =>
    rintro tok s' (⟨rfl, hi⟩ | hi) hS
    · have : lexTok l₀ = ([], []) := hi.symm
      rw [this] at hend
      exact hend s' rfl hS
    · rw [hi] at hend
      exact hend s' rfl hS
  case turn =>
    intro c l tok tc h tk m₂ t ys ny u line hl hi htk F2 N2 hys hC E'
    clear F N
    obtain ⟨rfl, hi⟩ := hi
    dsimp only [gm] at F2
    simp only [ciLed, lexLed, List.cons_append, List.nil_append, Bool.false_eq_true, if_false] at N2
    k_steps
    · unfold Hold
      k_dflt (refine' inner_Q rfl (fun _ _ _ => ?_) (fun _ _ _ => ?_) (by k_asm) (by k_dflt assumption) (by assumption) (by assumption) (by assumption) (by assumption) (by assumption) (by assumption) (by k_asm) (by k_asm) (by k_asm) (by ktr_room) (by ktr_units) (by first | assumption | (dsimp only; omega)) (by exact rfl) (by exact rfl) (by exact rfl) (by assumption) (by first | assumption | exact cnt_drop (by assumption)) (by first | assumption | (simp only [List.length_drop]; omega)) (by (simp only [List.length_cons, List.length_nil, List.length_append, List.length_take, List.length_drop]; omega)))
      · try k_steps
        have hc := eq34 (by assumption)
        subst hc
        rw [lexTok_quot] at hi
        rw [← hi] at hret
        exact hret _ _ (by k_dflt assumption)
      · try k_steps
        have hc := eq34 (by assumption)
        subst hc
        rw [lexTok_quot] at hi
        exact .inr ⟨_, hi.symm.trans (Prod.ext rfl (by assumption)), by k_dflt assumption⟩
    · unfold Hold
      k_dflt (refine' inner_A rfl (fun _ _ _ => ?_) (fun _ _ _ => ?_) (by k_asm) (by k_dflt assumption) (by assumption) (by assumption) (by assumption) (by assumption) (by assumption) (by assumption) (by k_asm) (by k_asm) (by k_asm) (by ktr_room) (by ktr_units) (by first | assumption | (dsimp only; omega)) (by exact rfl) (by exact rfl) (by exact rfl) (by assumption) (by first | assumption | exact cnt_drop (by assumption)) (by first | assumption | (simp only [List.length_drop]; omega)) (by (simp only [List.length_cons, List.length_nil, List.length_append, List.length_take, List.length_drop]; omega)))
      · try k_steps
        have hc := eq92 (by assumption)
        subst hc
        rw [lexTok_esc] at hi
        rw [← hi] at hret
        exact hret _ _ (by k_dflt assumption)
      · try k_steps
        have hc := eq92 (by assumption)
        subst hc
        rw [lexTok_esc] at hi
        exact .inr ⟨_, hi.symm.trans (Prod.ext rfl (by assumption)), by k_dflt assumption⟩
    · unfold Hold
      k_dflt (refine' inner_A rfl (fun _ _ _ => ?_) (fun _ _ _ => ?_) (by k_asm) (by k_dflt assumption) (by assumption) (by assumption) (by assumption) (by assumption) (by assumption) (by assumption) (by k_asm) (by k_asm) (by k_asm) (by ktr_room) (by ktr_units) (by first | assumption | (dsimp only; omega)) (by exact rfl) (by exact rfl) (by exact rfl) (by assumption) (by first | assumption | exact cnt_drop (by assumption)) (by first | assumption | (simp only [List.length_drop]; omega)) (by (simp only [List.length_cons, List.length_nil, List.length_append, List.length_take, List.length_drop]; omega)))
      · try k_steps
        rw [lexTok_char (ws_no (by assumption)) (ne34 (by assumption)) (ne92 (by assumption))] at hi
        rw [← hi] at hret
        exact hret _ _ (by k_dflt assumption)
      · try k_steps
        rw [lexTok_char (ws_no (by assumption)) (ne34 (by assumption)) (ne92 (by assumption))] at hi
        exact .inr ⟨_, hi.symm.trans (Prod.ext rfl (by assumption)), by k_dflt assumption⟩
    · rw [lexTok_ws (ws_yes (by assumption))] at hi
      exact ci_end (Inv := fun l tok => tok = [] ∧ lexTok l = lexTok l₀) (InvO := fun tok => lexTok l₀ = (tok, [])) (Q := Q) F2 N2 (by assumption) (by rfl) (by rfl) (by rfl) hys hC (Nat.le_refl _) ⟨rfl, hi⟩
end
end Mine
end SGetD2
section SGet02
namespace Mine
theorem fresh11 : True := by
  w_top off
  trivial
end Mine
open PySem PySem.W PyProof.Rows PySem.Calls
set_option Elab.async false
set_option maxRecDepth 100000
set_option maxHeartbeats 8000000
set_option pp.maxSteps 400
set_option autoImplicit false
namespace Mine
local macro_rules | `(tactic| walk_at "call builtin:list.pop") => `(tactic| (refine Mine.Hold.out ?_))
local macro_rules | `(tactic| walk_at "truthy ref") => `(tactic| (k_here; k_dflt (first
  | (refine' truthyN_cons (by k_asm) (by k_mem) (by first | assumption | omega) ?_; k_whole)
  | (refine' truthyN_nil (by k_asm) (by k_mem) ?_; k_whole))))
/-- a waiting text is got -/
theorem ct_get0 (w : World) (a : LexA) (ok : LexOk w a) (line : Int) (u : Tok) (q : PySem.Str) (tq : Tok) (qs : List (PySem.Str × Tok)) (nq ny : Nat) (own : List (Addr × Obj)) (hoff : OwnOff own a.adrs) (ys : List (PySem.Str × Tok)) (hqs : qs.length ≤ 100000) :
    Ct0 w 20 200 59 [.ref a.x] (lexLed a line u ((q, tq) :: qs) nq ys ny ++ own) True
      (fun r n' => r = .str q tq ∧ n' = lexLed a line u qs (nq + 1) ys ny ++ own) := by
  unfold Ct0
  k_fill
  intro p loose mean mg mb dp un gd env outer A₀ base h₀ L m s Q E B F X N T hf hk hdp hun hx hret
  obtain ⟨⟨_, _, _, _, _, _, _, _⟩, ⟨_, _, _, _, _, _, _, _⟩, _, _, _, _, _, _, _, _⟩ := nd9 ok.nd
  dsimp only [lexLed, List.cons_append, List.nil_append] at N
  k_dflt ktr_enter
  with_reducible refine gentoks2 ?hX ?_
  case hX => exact Nat.le_add_left 1 _
  intro tk htk1
  k_steps
  unfold Hold
  k_dflt (refine' kl_popAt (by k_asm) (by k_asm) (by decide) ?kiz1 ?kez1 ?kUz1 ?kzz1 ?_; (case kUz1 => k_upd); (case kiz1 => simp [seqIndex?, strValues] <;> rfl); (case kez1 => exact cut_strs _ _ _); (case kzz1 => simp [strValues, sizeLine_eq]; omega); k_whole; intro _ _ N'; (try dsimp only [List.nil_append] at N'); (try k_sweep))
  k_steps
  all_goals exact hret _ _ _ _ (by k_asm) (by k_asm) (by first | assumption | exact Nat.le_add_left 1 _) ⟨rfl, rfl⟩
theorem ct_get (w : World) (a : LexA) (ok : LexOk w a) (line : Int) (u : Tok) (q : PySem.Str) (tq : Tok) (qs : List (PySem.Str × Tok)) (nq ny : Nat) (own : List (Addr × Obj)) (hoff : OwnOff own a.adrs) (ys : List (PySem.Str × Tok)) (hqs : qs.length ≤ 100000) :
    Ct w 20 200 59 [.ref a.x] (lexLed a line u ((q, tq) :: qs) nq ys ny ++ own) True
      (fun r n' => r = .str q tq ∧ n' = lexLed a line u qs (nq + 1) ys ny ++ own) :=
  Ct0.ct (ct_get0 w a ok line u q tq qs nq ny own hoff ys hqs)
end Mine
end SGet02
section SGetE2
local macro_rules | `(tactic| walk_at "z") => `(tactic| skip)
namespace Mine
theorem fresh12 : True := by
  w_top off
  trivial
end Mine
open PySem PySem.W PyProof.Rows PySem.Calls
set_option Elab.async false
set_option maxRecDepth 100000
set_option maxHeartbeats 8000000
set_option pp.maxSteps 400
set_option autoImplicit false
namespace Mine
section
variable {w : World} {p : Program} {loose : List Str} {mean : ExcName → Option Value} {mg mb : Str → Option Value} {dp un : Nat} {gd : Option (List Code)} {outer : List Env} {A₀ : Around} {base h₀ : Heap} {L : Addr} {s : Shared} {E : Value → Shared → Prop}
  {a : LexA} {tS : Tok} {nq : Nat} {I q : Addr} {own : List (Addr × Obj)} {m : PySem.Str → Option Value}
theorem outer_F2 {fo fq fa : Stmt} {qn : PySem.Str} {sc : Scope} {cd : Value} {Q : Flow → Shared → Prop} {t u : Tok} {line : Int} {ys : List (PySem.Str × Tok)} {ny : Nat} {l₀ : List Nat} (hlo : loopsOf (hd.heap_39 w.params) = some (qn, sc, cd, fo, fq, fa))
    (F : Fr h₀ L s.heap m) (N : News h₀ L s.heap ((I, ciObj (.ref q) (.str (S []) tS) false) :: (q, methodObj (.ref 52) (.ref a.x)) :: (a.x, instObj 69 a.dx) :: (a.dx, lexDict a.d line u (.ref a.tape) a.pb) :: (a.pb, listOf (strValues []).toArray nq) :: (a.tape, instObj 69 a.dt) :: (a.dt, tapeDict a.e a.v1 a.v2 a.v3 a.v4 a.lam) :: (a.lam, a.LO) :: (a.cc, a.CO) :: (a.cell, a.SO) :: (a.sg, listOf (strValues ys).toArray ny) :: own))
    (ok : LexOk w a) (hoff : OwnOff own a.adrs) (hI : ∀ b ∈ a.adrs, I ≠ b) (hq : ∀ b ∈ a.adrs, q ≠ b) (hIq : I ≠ q) (hIo : ∀ x ∈ own, x.1 ≠ I)
    (B : Below A₀ base outer h₀) (X : (hd.heap_39 w.params).In h₀) (T : Top p loose mean mg mb h₀) (hdp : dp + 60 < recursionLimit) (hu : un + 600 < cLine) (ht : 1 ≤ s.toks)
    (hlen : l₀.length ≤ 100000) (h1 : m ("token" : PySem.Str) = some (.str (S []) t)) (h2 : m ("self" : PySem.Str) = some (.ref a.x)) (h3 : m ("fiter" : PySem.Str) = some (.ref I)) (hys : ys.map (·.1) = ones l₀.reverse)
    (hret : ∀ (h' : Heap) (tk : Nat) (m' : PySem.Str → Option Value) (t9 : Tok) (ys9 : List (PySem.Str × Tok)) (ny9 : Nat) (u9 : Tok) (line9 : Int) (oI : Obj), 1 ≤ tk → Fr h₀ L h' (fun y => if y = ("token" : PySem.Str) then some (.str (S (lexTok l₀).1) t9) else if y = ("self" : PySem.Str) then some (.ref a.x) else if y = ("fiter" : PySem.Str) then some (.ref I) else m' y) →
      News h₀ L h' ((I, oI) :: (q, methodObj (.ref 52) (.ref a.x)) :: (a.x, instObj 69 a.dx) :: (a.dx, lexDict a.d line9 u9 (.ref a.tape) a.pb) :: (a.pb, listOf (strValues []).toArray nq) :: (a.tape, instObj 69 a.dt) :: (a.dt, tapeDict a.e a.v1 a.v2 a.v3 a.v4 a.lam) :: (a.lam, a.LO) :: (a.cc, a.CO) :: (a.cell, a.SO) :: (a.sg, listOf (strValues ys9).toArray ny9) :: own) →
      ys9.map (·.1) = ones (lexTok l₀).2.reverse → line9 + ((lexTok l₀).2.count 10 : Nat) = line + (l₀.count 10 : Nat) →
        (∀ t, Q (.ret (.str (S (lexTok l₀).1) t)) { s with heap := h', toks := tk }) ∧ Q .next { s with heap := h', toks := tk }) :
    wpAny (model PySem.Challenge.rw_rw0051_02.row.prog w) (cT dp un gd (envOf qn sc L 59 cd) outer) (exec fo (envOf qn sc L 59 cd)) Q E s := by
  refine outer_F (C := line + (l₀.count 10 : Nat)) hlo ok hoff hI hq hIq hIo B F X (line := line) (u := u) (ys := ys) (ny := ny) (tS := tS) (by k_dflt assumption) T hdp hu ht hlen h1 h2 h3 hys rfl (fun t s' hS => ?_) fun s' hz hS => ?_
  · obtain ⟨h9, tk9, m9, t9, ys9, ny9, u9, line9, e9, htk9, F9, N9, hys9, hC9⟩ := hS
    subst e9
    exact (hret h9 tk9 m9 t9 ys9 ny9 u9 line9 _ htk9 F9 N9 hys9 hC9).1 t
  · obtain ⟨h9, tk9, m9, t9, ys9, ny9, u9, line9, e9, htk9, F9, N9, hys9, hC9⟩ := hS
    subst e9
    rw [← hz] at hys9 hC9
    exact (hret h9 tk9 m9 t9 ys9 ny9 u9 line9 _ htk9 F9 N9 hys9 hC9).2
theorem iterN {prog : Program} {A : Around} {news : List (Addr × Obj)} {Q : Value → Shared → Prop} {g snt v : Value} (F : Fr h₀ L s.heap m) (N : News h₀ L s.heap news) (hm : (q, methodObj g snt) ∈ news)
    (h : ∀ I h', Fr h₀ L h' m → News h₀ L h' ((I, ciObj (.ref q) v false) :: news) → (∀ p ∈ news, p.1 < I) → Q (.ref I) { s with heap := h' }) :
    wpAny (model prog w) A (call (.builtin "iter") [.ref q, v]) Q E s :=
  iter2 (o := ciObj v v false) (N _ hm).1 (h _ _ (F.push _) (News.push F N _) fun p hp => Heap.lt_size (N p hp).1)
end
local macro_rules | `(tactic| walk_at "truthy ref") => `(tactic| (k_here; k_dflt (refine' truthyN_nil (by k_asm) (by k_mem) ?_; k_whole)))
local macro_rules | `(tactic| walk_at "call builtin:iter") => `(tactic| (refine Mine.Hold.out ?_))
theorem ct_getE (w : World) (a : LexA) (ok : LexOk w a) (line : Int) (u : Tok) (nq ny : Nat) (own : List (Addr × Obj)) (hoff : OwnOff own a.adrs) (l : List Nat) (ys : List (PySem.Str × Tok)) (hys : ys.map (·.1) = ones l.reverse) (hl : l.length ≤ 100000) :
    Ct w 100 800 59 [.ref a.x] (lexLed a line u [] nq ys ny ++ own) True
      (fun r n' => ∃ t' u' ny' ys' line', r = .str (S (lexTok l).1) t' ∧ ys'.map (·.1) = ones (lexTok l).2.reverse ∧ line' + ((lexTok l).2.count 10 : Nat) = line + (l.count 10 : Nat) ∧ n' = lexLed a line' u' [] nq ys' ny' ++ own) := by
  unfold Ct
  k_fill
  intro p loose mean mg mb dp un gd env outer A₀ base h₀ L m s Q E B F X N T hf hk hdp hun htk hx hret
  obtain ⟨⟨_, _, _, _, _, _, _, _⟩, ⟨_, _, _, _, _, _, _, _⟩, _, _, _, _, _, _, _, _⟩ := nd9 ok.nd
  dsimp only [lexLed, List.cons_append, List.nil_append] at N
  refine codeAny_with_toks htk ?_
  k_dflt ktr_enter
  refine gentoks2 (Nat.le_trans htk (Nat.le_add_right _ _)) ?_
  intro tk htk1
  k_steps
  unfold Hold
  (try dsimp only [List.cons_append, List.nil_append])
  k_dflt (refine' iterN (by k_asm) (by k_asm) (by k_mem) ?_; k_whole; intro _ _ _ _ l1; (try k_lt l1); (try k_sweep))
  k_steps
  refine' outer_F2 (l₀ := l) rfl ?F ?N ok hoff ?hI ?hq ?hIq ?hIo ?B ?X ?T ?hdp ?hu ?ht hl ?h1 ?h2 ?h3 hys ?k
  case F => k_asm
  case N => k_dflt assumption
  case hI => (intro b hb; simp only [LexA.adrs, List.mem_cons, List.not_mem_nil, or_false] at hb; rcases hb with rfl | rfl | rfl | rfl | rfl | rfl | rfl | rfl | rfl <;> exact Nat.ne_of_gt (by with_reducible assumption))
  case hq => (intro b hb; simp only [LexA.adrs, List.mem_cons, List.not_mem_nil, or_false] at hb; rcases hb with rfl | rfl | rfl | rfl | rfl | rfl | rfl | rfl | rfl <;> exact Nat.ne_of_gt (by with_reducible assumption))
  case hIq => exact Nat.ne_of_gt (by with_reducible assumption)
  case hIo => exact fun x hx => Nat.ne_of_lt (PySem.W.kst_ltOf (by with_reducible assumption) x hx)
  case B => k_asm
  case X => k_asm
  case T => k_asm
  case hdp => ktr_room
  case hu => ktr_units
  case ht => first | assumption | (dsimp only; omega)
  case h1 => exact rfl
  case h2 => exact rfl
  case h3 => exact rfl
  case k =>
    intro h9 tk9 m9 t9 ys9 ny9 u9 line9 oI htk9 F9 N9 hys9 hC9
    refine ⟨fun t => ?_, ?_⟩
    all_goals (try dsimp only)
    all_goals k_steps
    all_goals exact hret _ _ _ (lexLed a line9 u9 [] nq ys9 ny9 ++ own) (by k_asm) (fun x hx => (show News _ _ _ (_ :: _ :: _) by k_asm) x (.tail _ (.tail _ hx))) (by assumption) ⟨_, u9, ny9, ys9, line9, rfl, hys9, hC9, rfl⟩
end Mine
end SGetE2
section SLq2
open PySem PySem.W PyProof.Rows PySem.Calls
set_option Elab.async false
set_option maxRecDepth 100000
set_option maxHeartbeats 8000000
set_option pp.maxSteps 400
set_option autoImplicit false
namespace Mine
theorem runA_le : ∀ (l tok : List Nat), (runA tok l).2.length ≤ l.length
  | [], _ => Nat.le_refl _
  | [c], tok => by
    unfold runA
    split
    · simp
    · split
      · simp
      · show ([] : List Nat).length ≤ 1; simp
  | c :: d :: l, tok => by
    unfold runA
    split
    · simp
    · split
      · have := runA_le l (tok ++ [d]); simp only [List.length_cons]; omega
      · have := runA_le (d :: l) (tok ++ [c]); simp only [List.length_cons] at this ⊢; omega
theorem runQ_le : ∀ (l tok : List Nat), (runQ tok l).2.length ≤ l.length
  | [], _ => Nat.le_refl _
  | [c], tok => by
    unfold runQ
    split
    · simp
    · split
      · simp
      · show ([] : List Nat).length ≤ 1; simp
  | c :: d :: l, tok => by
    unfold runQ
    split
    · simp
    · split
      · have := runQ_le l (tok ++ [d]); simp only [List.length_cons]; omega
      · have := runQ_le (d :: l) (tok ++ [c]); simp only [List.length_cons] at this ⊢; omega
theorem lexTok_le : ∀ l : List Nat, (lexTok l).2.length ≤ l.length
  | [] => Nat.le_refl _
  | c :: l => by
    unfold lexTok
    split
    · have := lexTok_le l; simp only [List.length_cons]; omega
    · split
      · have := runQ_le l []; simp only [List.length_cons]; omega
      · split
        · have := runA_le (l.drop 1) (l.take 1); rw [List.length_drop] at this; simp only [List.length_cons]; omega
        · have := runA_le l [c]; simp only [List.length_cons]; omega
theorem lexTok_le2 {l : List Nat} {k : Nat} (h : l.length ≤ k) : (lexTok l).2.length ≤ k := Nat.le_trans (lexTok_le l) h
end Mine
namespace Mine
/-- a sign as a run of deeds writes it -/
def spl : List Nat → Nat → List Nat
  | [], c => [c]
  | d :: r, c => match nameAt (tabOf d) (S [c]) with
    | some x => 38 :: (ampN (r.countP (2 ≤ ·)) ++ x.cps.toList)
    | none => spl r c
def bsl (k : Nat) : List Nat := List.replicate k 92
def dts (k : Nat) : List Nat := List.replicate k 46
/-- a part: blank, marks, dots, hidden, sign -/
abbrev Pt := Nat × Nat × Nat × Nat × Nat
/-- the reading at which a blank parts -/
def cut : List Nat → Nat → Nat → Option Nat
  | [], _, _ => none
  | d :: r, b, m => if d = 0 then (if m % 2 = 0 then some 0 else (cut r b (m / 2)).map (· + 1)) else if (nameAt (tabOf d) (S [b])).isSome then none else (cut r b m).map (· + 1)
def half (k n : Nat) : Nat := k / 2 ^ n
def seg (ρ : List Nat) (i : Nat) (p : Pt) : List Nat := dts (p.2.2.1 + (ρ.drop i).count 1) ++ bsl (half p.2.2.2.1 (ρ.count 0)) ++ spl ρ p.2.2.2.2
/-- what goes on in a word, and the words behind it -/
def tailW (ρ : List Nat) : List Pt → List Nat × List (List Nat)
  | [] => ([], [])
  | p :: ps => match cut ρ p.1 p.2.1 with
    | some i => (bsl (half p.2.1 (ρ.count 0)), (seg ρ i p ++ (tailW ρ ps).1) :: (tailW ρ ps).2)
    | none => (bsl (half p.2.1 (ρ.count 0)) ++ spl ρ p.1 ++ seg ρ ρ.length p ++ (tailW ρ ps).1, (tailW ρ ps).2)
def wordsW (ρ : List Nat) : List Pt → List (List Nat)
  | [] => []
  | p :: ps => (seg ρ 0 p ++ (tailW ρ ps).1) :: (tailW ρ ps).2
/-- all tokens of a text -/
def toksN : Nat → List Nat → List (List Nat)
  | 0, _ => []
  | n + 1, l => if (lexTok l).1 = [] then [] else (lexTok l).1 :: toksN n (lexTok l).2
/-- what a deed makes of a word -/
def doneOf (d : Nat) (l : List Nat) : List (List Nat) := if d = 1 then [qd l] else if 1 < d then [repN (escOf (d - 2)) l] else toksN (l.length + 1) l
theorem nm_plain : ∀ e : Nat, e < 5 → ∀ d : Nat, d < 5 → ∀ p ∈ nmTab (e : Int), ∀ a ∈ p.2.cps.toList, repN (escOf d) [a] = [a] := by
  have key : ([0, 1, 2, 3, 4].all fun e : Nat => [0, 1, 2, 3, 4].all fun d => (nmTab (e : Int)).all fun p => p.2.cps.toList.all fun a => decide (repN (escOf d) [a] = [a])) = true := by decide +kernel
  intro e he d hd p hp a ha
  have m5 : ∀ x : Nat, x < 5 → x ∈ [0, 1, 2, 3, 4] := by
    intro x hx
    simp only [List.mem_cons, List.not_mem_nil, or_false]; omega
  exact of_decide_eq_true (List.all_eq_true.mp (List.all_eq_true.mp (List.all_eq_true.mp (List.all_eq_true.mp key e (m5 e he)) d (m5 d hd)) p hp) a ha)
theorem tab_plain {e d : Nat} (he : e < 7) (hd : d < 5) {c : Nat} {x : PySem.Str} (h : nameAt (tabOf e) (S [c]) = some x) : x.cps.toList.flatMap (fun a => repN (escOf d) [a]) = x.cps.toList := by
  unfold tabOf at h
  split at h
  · unfold nameAt at h; cases h
  · unfold nameAt at h
    cases hq : (nmTab ((e - 2 : Nat) : Int)).find? (fun p => p.1 = S [c]) with
    | none => rw [hq] at h; cases h
    | some p =>
      rw [hq] at h
      cases h
      exact flat_id fun a ha => nm_plain (e - 2) (by omega) d hd p (List.mem_of_find?_eq_some hq) a ha
theorem amp_esc {d : Nat} (hd : d < 5) (n : Nat) : (ampN n).flatMap (fun a => repN (escOf d) [a]) = ampN n := flat_id fun c hc => by
  refine (agree d hd).plain c ?_
  unfold ampN at hc
  rw [List.mem_flatten] at hc
  obtain ⟨l, hl, hc⟩ := hc
  rw [(List.mem_replicate.mp hl).2] at hc
  exact List.mem_cons_of_mem _ hc
/-- a deed more -/
theorem mem_ampN2 {n c : Nat} (h : c ∈ ampN n) : c ∈ [97, 109, 112, 59] := by
  unfold ampN at h
  rw [List.mem_flatten] at h
  obtain ⟨l, hl, hc⟩ := h
  rw [(List.mem_replicate.mp hl).2] at hc
  exact hc
theorem spl_esc {d : Nat} (hd : d < 5) {c : Nat} (h10 : c ≠ 10) (h13 : c ≠ 13) : ∀ ρ : List Nat, (∀ e ∈ ρ, e < 7) → repN (escOf d) (spl ρ c) = spl (ρ ++ [d + 2]) c
  | [], _ => by
    have h := (agree d hd).one c h10 h13
    show repN (escOf d) [c] = match nameAt (tabOf (d + 2)) (S [c]) with | some x => 38 :: (ampN 0 ++ x.cps.toList) | none => [c]
    have e : tabOf (d + 2) = nmTab (d : Int) := by unfold tabOf; rw [if_neg (by omega)]; rfl
    rw [h, e]
    cases hn : nameAt (nmTab (d : Int)) (S [c]) with
    | none => rw [spell_none hn]
    | some x => rw [spell_some hn (by decide)]
  | e :: r, hr => by
    have ih := spl_esc hd h10 h13 r fun x hx => hr x (.tail _ hx)
    show repN (escOf d) (match nameAt (tabOf e) (S [c]) with | some x => 38 :: (ampN (r.countP (2 ≤ ·)) ++ x.cps.toList) | none => spl r c) = match nameAt (tabOf e) (S [c]) with | some x => 38 :: (ampN ((r ++ [d + 2]).countP (2 ≤ ·)) ++ x.cps.toList) | none => spl (r ++ [d + 2]) c
    cases hn : nameAt (tabOf e) (S [c]) with
    | none => exact ih
    | some x =>
      have hc : (r ++ [d + 2]).countP (2 ≤ ·) = r.countP (2 ≤ ·) + 1 := by simp
      dsimp only
      rw [hc, ampN_succ, repN_flat, List.flatMap_cons, List.flatMap_append, (agree d hd).amp, amp_esc hd, tab_plain (hr e (.head _)) hd hn]
      rfl
theorem spl_pass {d : Nat} (hd : d < 2) (c : Nat) : ∀ ρ : List Nat, spl (ρ ++ [d]) c = spl ρ c
  | [] => by
    show (match nameAt (tabOf d) (S [c]) with | some x => 38 :: (ampN 0 ++ x.cps.toList) | none => [c]) = [c]
    have e : tabOf d = [] := by unfold tabOf; rw [if_pos hd]
    rw [e]; rfl
  | e :: r => by
    have ih := spl_pass hd c r
    show (match nameAt (tabOf e) (S [c]) with | some x => 38 :: (ampN ((r ++ [d]).countP (2 ≤ ·)) ++ x.cps.toList) | none => spl (r ++ [d]) c) = match nameAt (tabOf e) (S [c]) with | some x => 38 :: (ampN (r.countP (2 ≤ ·)) ++ x.cps.toList) | none => spl r c
    have hc : (r ++ [d]).countP (2 ≤ ·) = r.countP (2 ≤ ·) := by simp; omega
    rw [hc, ih]
theorem half_succ (k n : Nat) : half k (n + 1) = half k n / 2 := by unfold half; rw [Nat.pow_succ, Nat.div_div_eq_div_mul]
end Mine
end SLq2
section SLz2
open PySem PySem.W PyProof.Rows PySem.Calls
set_option Elab.async false
set_option maxRecDepth 100000
set_option maxHeartbeats 8000000
set_option pp.maxSteps 400
set_option autoImplicit false
namespace Mine
theorem runA_end2 (tok r : List Nat) (c : Nat) (h : ws c = true) : runA tok (c :: r) = (tok, r) := by unfold runA; simp [h]
theorem runA_esc2 (tok r : List Nat) (c : Nat) : runA tok (92 :: c :: r) = runA (tok ++ [c]) r := by conv => lhs; unfold runA; simp [ws]
theorem runA_more2 (tok r : List Nat) (c : Nat) (h1 : ws c = false) (h2 : c ≠ 92) : runA tok (c :: r) = runA (tok ++ [c]) r := by conv => lhs; unfold runA; simp [h1, h2]
end Mine
namespace Mine
theorem runA_tok : ∀ (l tok : List Nat), ∃ x, (runA tok l).1 = tok ++ x
  | [], tok => ⟨[], by simp [runA]⟩
  | [c], tok => by
    unfold runA
    split
    · exact ⟨[], by simp⟩
    · split
      · exact ⟨[], by simp⟩
      · exact ⟨[c], by simp [runA]⟩
  | c :: d :: l, tok => by
    unfold runA
    split
    · exact ⟨[], by simp⟩
    · split
      · obtain ⟨x, h⟩ := runA_tok l (tok ++ [d]); exact ⟨d :: x, by rw [h]; simp⟩
      · obtain ⟨x, h⟩ := runA_tok (d :: l) (tok ++ [c]); exact ⟨c :: x, by rw [h]; simp⟩
theorem lexTok_lt {l : List Nat} (h : l ≠ []) : (lexTok l).2.length < l.length := by
  cases l with
  | nil => exact absurd rfl h
  | cons c l =>
    unfold lexTok
    rw [List.length_cons]
    split
    · have := lexTok_le l; omega
    · split
      · have := runQ_le l []; omega
      · split
        · have := runA_le (l.drop 1) (l.take 1); rw [List.length_drop] at this; omega
        · have := runA_le l [c]; omega
theorem toksN_enough : ∀ (n k : Nat) (l : List Nat), l.length < n → l.length < k → toksN n l = toksN k l
  | 0, _, l, h, _ => absurd h (Nat.not_lt_zero _)
  | _, 0, l, _, h => absurd h (Nat.not_lt_zero _)
  | n + 1, k + 1, l, h1, h2 => by
    show (if (lexTok l).1 = [] then [] else (lexTok l).1 :: toksN n (lexTok l).2) = if (lexTok l).1 = [] then [] else (lexTok l).1 :: toksN k (lexTok l).2
    by_cases hl : (lexTok l).1 = []
    · rw [if_pos hl, if_pos hl]
    · rw [if_neg hl, if_neg hl]
      have hne : l ≠ [] := fun e => hl (by rw [e]; rfl)
      have := lexTok_lt hne
      rw [toksN_enough n k (lexTok l).2 (by omega) (by omega)]
def toks (l : List Nat) : List (List Nat) := toksN (l.length + 1) l
theorem toks_nil : toks [] = [] := rfl
/-- what is read with a word under way -/
def rdAll (tok l : List Nat) : List (List Nat) := (runA tok l).1 :: toks (runA tok l).2
def plainL (x : List Nat) : Prop := ∀ c ∈ x, ws c = false ∧ c ≠ 92
theorem runA_plain : ∀ (x tok r : List Nat), plainL x → runA tok (x ++ r) = runA (tok ++ x) r
  | [], tok, r, _ => by simp
  | c :: x, tok, r, h => by
    rw [List.cons_append, runA_more2 _ _ _ (h c (.head _)).1 (h c (.head _)).2, runA_plain x _ r fun a ha => h a (.tail _ ha)]
    simp
theorem bsl_snoc (k : Nat) : [92] ++ bsl k = bsl (k + 1) := rfl
theorem runA_marks : ∀ (k : Nat) (tok : List Nat) (c : Nat) (r : List Nat), runA tok (bsl k ++ c :: r) = if k % 2 = 1 then runA (tok ++ bsl (k / 2) ++ [c]) r else runA (tok ++ bsl (k / 2)) (c :: r)
  | 0, tok, c, r => by simp [bsl]
  | 1, tok, c, r => by
    show runA tok (92 :: c :: r) = _
    rw [runA_esc2, if_pos rfl]
    simp [bsl]
  | k + 2, tok, c, r => by
    have ih := runA_marks k (tok ++ [92]) c r
    have e : runA tok (bsl (k + 2) ++ c :: r) = runA (tok ++ [92]) (bsl k ++ c :: r) := by
      show runA tok (92 :: 92 :: (bsl k ++ c :: r)) = _
      rw [runA_esc2]
    have h1 : (k + 2) % 2 = k % 2 := by omega
    have h2 : (k + 2) / 2 = k / 2 + 1 := by omega
    have h3 : tok ++ [92] ++ bsl (k / 2) = tok ++ bsl (k / 2 + 1) := by rw [List.append_assoc, bsl_snoc]
    rw [e, ih, h1, h2, h3]
theorem runA_marksEnd : ∀ (k : Nat) (tok : List Nat), runA tok (bsl k) = (tok ++ bsl (k / 2), [])
  | 0, tok => by simp [bsl, runA]
  | 1, tok => by simp [bsl, runA, ws]
  | k + 2, tok => by
    have ih := runA_marksEnd k (tok ++ [92])
    have e : runA tok (bsl (k + 2)) = runA (tok ++ [92]) (bsl k) := by
      show runA tok (92 :: 92 :: bsl k) = _
      rw [runA_esc2]
    have h2 : (k + 2) / 2 = k / 2 + 1 := by omega
    rw [e, ih, h2, List.append_assoc, bsl_snoc]
/-- marks ahead of a written sign -/
theorem runA_sign (k c : Nat) (x tok r : List Nat) (h : plainL (c :: x)) : runA tok (bsl k ++ (c :: x ++ r)) = runA (tok ++ bsl (k / 2) ++ (c :: x)) r := by
  have e : runA tok (bsl k ++ (c :: x ++ r)) = runA (tok ++ bsl (k / 2) ++ [c]) (x ++ r) := by
    show runA tok (bsl k ++ c :: (x ++ r)) = _
    rw [runA_marks]
    split
    · rfl
    · rw [runA_more2 _ _ _ (h c (.head _)).1 (h c (.head _)).2]
  rw [e, runA_plain x _ r fun a ha => h a (.tail _ ha)]
  simp
theorem dts_plain (n : Nat) : plainL (dts n) := fun c hc => by rw [(List.mem_replicate.mp hc).2]; decide
theorem toks_dts (n : Nat) (r : List Nat) : toks (dts (n + 1) ++ r) = rdAll (dts (n + 1)) r := by
  have e : lexTok (dts (n + 1) ++ r) = runA (dts (n + 1)) r := by
    show lexTok (46 :: (dts n ++ r)) = _
    rw [lexTok, if_neg (by decide), if_neg (by decide), if_neg (by decide), runA_plain _ _ _ (dts_plain n)]
    rfl
  have hne : (runA (dts (n + 1)) r).1 ≠ [] := by
    obtain ⟨x, hx⟩ := runA_tok r (dts (n + 1))
    rw [hx]
    exact fun h => by simp [dts, List.replicate_succ] at h
  unfold toks rdAll
  show (if (lexTok (dts (n + 1) ++ r)).1 = [] then [] else (lexTok (dts (n + 1) ++ r)).1 :: toksN _ (lexTok (dts (n + 1) ++ r)).2) = _
  rw [e, if_neg hne]
  congr 1
  refine toksN_enough _ _ _ ?_ (Nat.lt_succ_self _)
  have := runA_le r (dts (n + 1))
  rw [List.length_append]
  have : (dts (n + 1)).length = n + 1 := List.length_replicate
  omega
theorem nm_ok : ∀ e : Nat, e < 5 → ∀ p ∈ nmTab (e : Int), ∀ a ∈ p.2.cps.toList, ws a = false ∧ a ≠ 92 := by
  have key : ([0, 1, 2, 3, 4].all fun e : Nat => (nmTab (e : Int)).all fun p => p.2.cps.toList.all fun a => !ws a && decide (a ≠ 92)) = true := by decide +kernel
  intro e he p hp a ha
  have := List.all_eq_true.mp (List.all_eq_true.mp (List.all_eq_true.mp key e (by simp only [List.mem_cons, List.not_mem_nil, or_false]; omega)) p hp) a ha
  rw [Bool.and_eq_true, Bool.not_eq_true', decide_eq_true_eq] at this
  exact this
theorem tab_ok {e : Nat} (he : e < 7) {c : Nat} {x : PySem.Str} (h : nameAt (tabOf e) (S [c]) = some x) : plainL x.cps.toList := by
  unfold tabOf at h
  split at h
  · unfold nameAt at h; cases h
  · unfold nameAt at h
    cases hq : (nmTab ((e - 2 : Nat) : Int)).find? (fun p => p.1 = S [c]) with
    | none => rw [hq] at h; cases h
    | some p =>
      rw [hq] at h
      cases h
      exact nm_ok (e - 2) (by omega) p (List.mem_of_find?_eq_some hq)
theorem amp_ok (n : Nat) : plainL (ampN n) := fun c hc => by
  have := mem_ampN2 hc
  simp only [List.mem_cons, List.not_mem_nil, or_false] at this
  rcases this with rfl | rfl | rfl | rfl <;> decide
/-- a sign is written plain or from an ampersand on -/
theorem spl_form : ∀ (ρ : List Nat), (∀ e ∈ ρ, e < 7) → ∀ c, spl ρ c = [c] ∨ ∃ x, spl ρ c = 38 :: x ∧ plainL x
  | [], _, c => .inl rfl
  | e :: r, h, c => by
    have e1 : spl (e :: r) c = match nameAt (tabOf e) (S [c]) with | some x => 38 :: (ampN (r.countP (2 ≤ ·)) ++ x.cps.toList) | none => spl r c := rfl
    rw [e1]
    cases hn : nameAt (tabOf e) (S [c]) with
    | none => exact spl_form r (fun x hx => h x (.tail _ hx)) c
    | some x =>
      refine .inr ⟨ampN (r.countP (2 ≤ ·)) ++ x.cps.toList, rfl, fun a ha => ?_⟩
      rcases List.mem_append.mp ha with ha | ha
      · exact amp_ok _ a ha
      · exact tab_ok (h e (.head _)) hn a ha
theorem spl_sign {ρ : List Nat} (h : ∀ e ∈ ρ, e < 7) {c : Nat} (hc : ws c = false ∧ c ≠ 92) : ∃ d x, spl ρ c = d :: x ∧ plainL (d :: x) := by
  rcases spl_form ρ h c with e | ⟨x, e, hx⟩
  · exact ⟨c, [], e, fun a ha => by rw [List.mem_singleton.mp ha]; exact hc⟩
  · refine ⟨38, x, e, fun a ha => ?_⟩
    rcases List.mem_cons.mp ha with rfl | ha
    · decide
    · exact hx a ha
theorem cut_lt : ∀ (ρ : List Nat) (b m i : Nat), cut ρ b m = some i → i < ρ.length
  | [], _, _, _, h => by cases h
  | d :: r, b, m, i, h => by
    unfold cut at h
    rw [List.length_cons]
    split at h
    · split at h
      · cases h; omega
      · cases hq : cut r b (m / 2) with
        | none => rw [hq] at h; cases h
        | some j => rw [hq] at h; cases h; have := cut_lt r b _ j hq; show j + 1 < r.length + 1; omega
    · split at h
      · cases h
      · cases hq : cut r b m with
        | none => rw [hq] at h; cases h
        | some j => rw [hq] at h; cases h; have := cut_lt r b _ j hq; show j + 1 < r.length + 1; omega
theorem cut_some {d : Nat} : ∀ (ρ : List Nat) (b m i : Nat), cut ρ b m = some i → cut (ρ ++ [d]) b m = some i
  | [], _, _, _, h => by cases h
  | e :: r, b, m, i, h => by
    unfold cut at h
    show (if e = 0 then (if m % 2 = 0 then some 0 else (cut (r ++ [d]) b (m / 2)).map (· + 1)) else if (nameAt (tabOf e) (S [b])).isSome then none else (cut (r ++ [d]) b m).map (· + 1)) = some i
    split at h
    · next he =>
      rw [if_pos he]
      split at h
      · next hm => rw [if_pos hm]; exact h
      · next hm =>
        rw [if_neg hm]
        cases hq : cut r b (m / 2) with
        | none => rw [hq] at h; cases h
        | some j => rw [cut_some r b _ j hq]; rw [hq] at h; exact h
    · next he =>
      rw [if_neg he]
      split at h
      · cases h
      · next hn =>
        rw [if_neg hn]
        cases hq : cut r b m with
        | none => rw [hq] at h; cases h
        | some j => rw [cut_some r b _ j hq]; rw [hq] at h; exact h
theorem tab0 (c : Nat) : nameAt (tabOf 0) (S [c]) = none := rfl
/-- hidden: a deed has written the blank in another way -/
def hid : List Nat → Nat → Bool
  | [], _ => false
  | d :: r, b => (nameAt (tabOf d) (S [b])).isSome || hid r b
theorem hid_spl : ∀ (ρ : List Nat) (b : Nat), b ≠ 38 → (hid ρ b = false ↔ spl ρ b = [b])
  | [], b, _ => by simp [hid, spl]
  | d :: r, b, hb => by
    have ih := hid_spl r b hb
    unfold hid spl
    cases hn : nameAt (tabOf d) (S [b]) with
    | none => simpa using ih
    | some x =>
      simp only [Option.isSome_some, Bool.true_or, Bool.true_eq_false, false_iff]
      intro h
      injection h with h _
      exact hb h.symm
theorem cut_hid {d : Nat} : ∀ (ρ : List Nat) (b m : Nat), cut ρ b m = none → hid ρ b = true → cut (ρ ++ [d]) b m = none
  | [], _, _, _, h => by cases h
  | e :: r, b, m, h, hh => by
    unfold cut at h
    show (if e = 0 then (if m % 2 = 0 then some 0 else (cut (r ++ [d]) b (m / 2)).map (· + 1)) else if (nameAt (tabOf e) (S [b])).isSome then none else (cut (r ++ [d]) b m).map (· + 1)) = none
    unfold hid at hh
    split at h
    · next he =>
      subst he
      rw [if_pos rfl]
      rw [tab0, Option.isSome_none, Bool.false_or] at hh
      split at h
      · cases h
      · next hm =>
        rw [if_neg hm]
        cases hq : cut r b (m / 2) with
        | none => rw [cut_hid r b _ hq hh]; rfl
        | some j => rw [hq] at h; cases h
    · next he =>
      rw [if_neg he]
      split
      · rfl
      · next hn =>
        rw [if_neg hn] at h
        have hn' : (nameAt (tabOf e) (S [b])).isSome = false := by simpa using hn
        rw [hn', Bool.false_or] at hh
        cases hq : cut r b m with
        | none => rw [cut_hid r b _ hq hh]; rfl
        | some j => rw [hq] at h; cases h
theorem cut_other {d : Nat} (hd : d ≠ 0) : ∀ (ρ : List Nat) (b m : Nat), cut ρ b m = none → cut (ρ ++ [d]) b m = none
  | [], b, m, _ => by
    show (if d = 0 then _ else if (nameAt (tabOf d) (S [b])).isSome then none else (none : Option Nat).map (· + 1)) = none
    rw [if_neg hd]
    split <;> rfl
  | e :: r, b, m, h => by
    unfold cut at h
    show (if e = 0 then (if m % 2 = 0 then some 0 else (cut (r ++ [d]) b (m / 2)).map (· + 1)) else if (nameAt (tabOf e) (S [b])).isSome then none else (cut (r ++ [d]) b m).map (· + 1)) = none
    split at h
    · next he =>
      rw [if_pos he]
      split at h
      · cases h
      · next hm =>
        rw [if_neg hm]
        cases hq : cut r b (m / 2) with
        | none => rw [cut_other hd r b _ hq]; rfl
        | some j => rw [hq] at h; cases h
    · next he =>
      rw [if_neg he]
      split
      · rfl
      · next hn =>
        rw [if_neg hn] at h
        cases hq : cut r b m with
        | none => rw [cut_other hd r b _ hq]; rfl
        | some j => rw [hq] at h; cases h
theorem half_half (m n : Nat) : half (m / 2) n = half m (n + 1) := by unfold half; rw [Nat.div_div_eq_div_mul, Nat.pow_succ, Nat.mul_comm]
theorem cut_read : ∀ (ρ : List Nat) (b m : Nat), cut ρ b m = none → hid ρ b = false → cut (ρ ++ [0]) b m = if half m (ρ.count 0) % 2 = 0 then some ρ.length else none
  | [], b, m, _, _ => by
    show (if m % 2 = 0 then some 0 else (none : Option Nat).map (· + 1)) = _
    have : half m ([].count 0) = m := by unfold half; simp
    rw [this]; rfl
  | e :: r, b, m, h, hh => by
    unfold cut at h
    show (if e = 0 then (if m % 2 = 0 then some 0 else (cut (r ++ [0]) b (m / 2)).map (· + 1)) else if (nameAt (tabOf e) (S [b])).isSome then none else (cut (r ++ [0]) b m).map (· + 1)) = _
    unfold hid at hh
    rw [Bool.or_eq_false_iff] at hh
    split at h
    · next he =>
      subst he
      rw [if_pos rfl]
      split at h
      · cases h
      · next hm =>
        rw [if_neg hm]
        cases hq : cut r b (m / 2) with
        | none =>
          rw [cut_read r b _ hq hh.2, half_half, List.count_cons_self, List.length_cons]
          split <;> rfl
        | some j => rw [hq] at h; cases h
    · next he =>
      rw [if_neg he, if_neg (by rw [hh.1]; simp)]
      rw [if_neg (by rw [hh.1]; simp)] at h
      cases hq : cut r b m with
      | none =>
        have hc : (e :: r).count 0 = r.count 0 := by rw [List.count_cons]; simp [he]
        rw [cut_read r b _ hq hh.2, hc, List.length_cons]
        split <;> rfl
      | some j => rw [hq] at h; cases h
end Mine
end SLz2
section SLw2
open PySem PySem.W PyProof.Rows PySem.Calls
set_option Elab.async false
set_option maxRecDepth 100000
set_option maxHeartbeats 8000000
set_option pp.maxSteps 400
set_option autoImplicit false
namespace Mine
structure PtOk (p : Pt) : Prop where
  blank : p.1 = 32 ∨ p.1 = 9
  dots : 1 ≤ p.2.2.1
  sign : ws p.2.2.2.2 = false ∧ p.2.2.2.2 ≠ 92
theorem PtOk.s10 {p : Pt} (h : PtOk p) : p.2.2.2.2 ≠ 10 ∧ p.2.2.2.2 ≠ 13 := by
  have := h.sign.1
  constructor
  · intro e; rw [e] at this; cases this
  · intro e; rw [e] at this; cases this
theorem PtOk.b {p : Pt} (h : PtOk p) : p.1 ≠ 38 ∧ p.1 ≠ 10 ∧ p.1 ≠ 13 ∧ ws p.1 = true ∧ p.1 ≠ 92 := by
  rcases h.blank with e | e <;> rw [e] <;> decide
theorem drop_snoc (ρ : List Nat) (d i : Nat) (hi : i ≤ ρ.length) : (ρ ++ [d]).drop i = ρ.drop i ++ [d] := List.drop_append_of_le_length hi
theorem seg_merge (ρ : List Nat) (d : Nat) (p : Pt) (h : d ≠ 1) : seg (ρ ++ [d]) (ρ ++ [d]).length p = dts p.2.2.1 ++ bsl (half p.2.2.2.1 ((ρ ++ [d]).count 0)) ++ spl (ρ ++ [d]) p.2.2.2.2 := by
  unfold seg; rw [List.drop_length]; rfl
theorem seg_merge0 (ρ : List Nat) (p : Pt) : seg ρ ρ.length p = dts p.2.2.1 ++ bsl (half p.2.2.2.1 (ρ.count 0)) ++ spl ρ p.2.2.2.2 := by
  unfold seg; rw [List.drop_length]; rfl
theorem seg_late (ρ : List Nat) (d : Nat) (p : Pt) (h : d ≠ 1) : seg (ρ ++ [d]) (ρ ++ [d]).length p = seg (ρ ++ [d]) ρ.length p := by
  rw [seg_merge _ _ _ h]
  unfold seg
  rw [drop_snoc _ _ _ (Nat.le_refl _), List.drop_length, List.nil_append, List.count_cons, List.count_nil]
  simp [h]
theorem wordsW_cons (ρ : List Nat) (p : Pt) (ps : List Pt) : wordsW ρ (p :: ps) = (seg ρ 0 p ++ (tailW ρ ps).1) :: (tailW ρ ps).2 := rfl
theorem flat_one (f : List Nat → List Nat) : ∀ l : List (List Nat), l.flatMap (fun x => [f x]) = l.map f
  | [] => rfl
  | a :: l => by rw [List.flatMap_cons, flat_one f l]; rfl
-- a sending
theorem qd_seg (ρ : List Nat) (i : Nat) (hi : i ≤ ρ.length) (p : Pt) (hp : PtOk p) (t : List Nat) : qd (seg ρ i p ++ t) = seg (ρ ++ [1]) i p ++ t := by
  have hd := hp.dots
  obtain ⟨n, hn⟩ : ∃ n, p.2.2.1 + (ρ.drop i).count 1 = n + 1 := ⟨p.2.2.1 + (ρ.drop i).count 1 - 1, by omega⟩
  have h2 : p.2.2.1 + ((ρ ++ [1]).drop i).count 1 = n + 1 + 1 := by
    rw [drop_snoc _ _ _ hi, List.count_append]
    have : ([1] : List Nat).count 1 = 1 := rfl
    omega
  have h3 : (ρ ++ [1]).count 0 = ρ.count 0 := by rw [List.count_append]; rfl
  unfold seg
  rw [hn, h2, h3, spl_pass (by decide)]
  rfl
theorem cut_keep {d : Nat} (hd : d ≠ 0) (ρ : List Nat) (b m : Nat) : cut (ρ ++ [d]) b m = cut ρ b m := by
  cases h : cut ρ b m with
  | none => exact cut_other hd ρ b m h
  | some i => exact cut_some ρ b m i h
theorem tail_send (ρ : List Nat) : ∀ ps : List Pt, (∀ p ∈ ps, PtOk p) → tailW (ρ ++ [1]) ps = ((tailW ρ ps).1, (tailW ρ ps).2.map qd)
  | [], _ => rfl
  | p :: ps, h => by
    have ih := tail_send ρ ps fun q hq => h q (.tail _ hq)
    have hp := h p (.head _)
    have h3 : (ρ ++ [1]).count 0 = ρ.count 0 := by rw [List.count_append]; rfl
    unfold tailW
    rw [cut_keep (by decide), ih, h3, spl_pass (by decide)]
    cases hc : cut ρ p.1 p.2.1 with
    | some i =>
      dsimp only
      rw [List.map_cons, qd_seg ρ i (Nat.le_of_lt (cut_lt _ _ _ _ hc)) p hp]
    | none =>
      dsimp only
      have : seg (ρ ++ [1]) (ρ ++ [1]).length p = seg ρ ρ.length p := by
        rw [seg_merge0, seg_merge0, h3, spl_pass (by decide)]
      rw [this]
theorem words_send (ρ : List Nat) (ps : List Pt) (h : ∀ p ∈ ps, PtOk p) : wordsW (ρ ++ [1]) ps = (wordsW ρ ps).flatMap (doneOf 1) := by
  have e : doneOf 1 = fun l => [qd l] := by funext l; rfl
  rw [e]
  cases ps with
  | nil => rfl
  | cons p ps =>
    rw [wordsW_cons, wordsW_cons, tail_send ρ ps fun q hq => h q (.tail _ hq), ← qd_seg ρ 0 (Nat.zero_le _) p (h p (.head _)), flat_one]
    rfl
-- an escape
theorem esc_dts {d : Nat} (hd : d < 5) (n : Nat) : repN (escOf d) (dts n) = dts n := by
  rw [repN_flat]
  exact flat_id fun c hc => by rw [(List.mem_replicate.mp hc).2]; exact (agree d hd).plain 46 (by decide)
theorem esc_bsl {d : Nat} (hd : d < 5) (n : Nat) : repN (escOf d) (bsl n) = bsl n := by
  have key : ([0, 1, 2, 3, 4].all fun d => decide (repN (escOf d) [92] = [92])) = true := by decide +kernel
  rw [repN_flat]
  exact flat_id fun c hc => by
    rw [(List.mem_replicate.mp hc).2]
    exact of_decide_eq_true (List.all_eq_true.mp key d (by simp only [List.mem_cons, List.not_mem_nil, or_false]; omega))
theorem esc_seg {d : Nat} (hd : d < 5) (ρ : List Nat) (hr : ∀ e ∈ ρ, e < 7) (i : Nat) (hi : i ≤ ρ.length) (p : Pt) (hp : PtOk p) : repN (escOf d) (seg ρ i p) = seg (ρ ++ [d + 2]) i p := by
  have h3 : (ρ ++ [d + 2]).count 0 = ρ.count 0 := by rw [List.count_append, List.count_cons]; simp
  have h2 : ((ρ ++ [d + 2]).drop i).count 1 = (ρ.drop i).count 1 := by rw [drop_snoc _ _ _ hi, List.count_append, List.count_cons]; simp
  unfold seg
  rw [repN_app, repN_app, esc_dts hd, esc_bsl hd, spl_esc hd hp.s10.1 hp.s10.2 ρ hr, h2, h3]
theorem tail_esc {d : Nat} (hd : d < 5) (ρ : List Nat) (hr : ∀ e ∈ ρ, e < 7) : ∀ ps : List Pt, (∀ p ∈ ps, PtOk p) → tailW (ρ ++ [d + 2]) ps = (repN (escOf d) (tailW ρ ps).1, (tailW ρ ps).2.map (repN (escOf d)))
  | [], _ => by show _ = (repN (escOf d) [], _); rw [repN_nil]; rfl
  | p :: ps, h => by
    have ih := tail_esc hd ρ hr ps fun q hq => h q (.tail _ hq)
    have hp := h p (.head _)
    have h3 : (ρ ++ [d + 2]).count 0 = ρ.count 0 := by rw [List.count_append, List.count_cons]; simp
    unfold tailW
    rw [cut_keep (by omega), ih, h3]
    cases hc : cut ρ p.1 p.2.1 with
    | some i =>
      dsimp only
      rw [List.map_cons, repN_app, esc_seg hd ρ hr i (Nat.le_of_lt (cut_lt _ _ _ _ hc)) p hp, esc_bsl hd]
    | none =>
      dsimp only
      rw [repN_app, repN_app, repN_app, esc_bsl hd, spl_esc hd hp.b.2.1 hp.b.2.2.1 ρ hr, esc_seg hd ρ hr _ (Nat.le_refl _) p hp, seg_late _ _ _ (by omega)]
theorem words_esc {d : Nat} (hd : d < 5) (ρ : List Nat) (hr : ∀ e ∈ ρ, e < 7) (ps : List Pt) (h : ∀ p ∈ ps, PtOk p) : wordsW (ρ ++ [d + 2]) ps = (wordsW ρ ps).flatMap (doneOf (d + 2)) := by
  have e : doneOf (d + 2) = fun l => [repN (escOf d) l] := by
    funext l
    unfold doneOf
    rw [if_neg (by omega), if_pos (by omega)]; rfl
  rw [e]
  cases ps with
  | nil => rfl
  | cons p ps =>
    rw [wordsW_cons, wordsW_cons, tail_esc hd ρ hr ps fun q hq => h q (.tail _ hq), ← esc_seg hd ρ hr 0 (Nat.zero_le _) p (h p (.head _)), ← repN_app, flat_one]
    rfl
-- a reading
theorem rdAll_of {tok l tok2 l2 : List Nat} (h : runA tok l = runA tok2 l2) : rdAll tok l = rdAll tok2 l2 := by unfold rdAll; rw [h]
theorem read_count (ρ : List Nat) : (ρ ++ [0]).count 0 = ρ.count 0 + 1 := by rw [List.count_append]; rfl
theorem seg_read (ρ : List Nat) (i : Nat) (hi : i ≤ ρ.length) (p : Pt) : seg (ρ ++ [0]) i p = dts (p.2.2.1 + (ρ.drop i).count 1) ++ bsl (half p.2.2.2.1 (ρ.count 0) / 2) ++ spl ρ p.2.2.2.2 := by
  have h2 : ((ρ ++ [0]).drop i).count 1 = (ρ.drop i).count 1 := by rw [drop_snoc _ _ _ hi, List.count_append]; rfl
  unfold seg
  rw [h2, read_count, half_succ, spl_pass (by decide)]
theorem runA_seg (ρ : List Nat) (hr : ∀ e ∈ ρ, e < 7) (i : Nat) (hi : i ≤ ρ.length) (p : Pt) (hp : PtOk p) (tok t : List Nat) : runA tok (seg ρ i p ++ t) = runA (tok ++ seg (ρ ++ [0]) i p) t := by
  obtain ⟨d, x, e, hx⟩ := spl_sign hr hp.sign
  rw [seg_read ρ i hi]
  unfold seg
  rw [e, List.append_assoc, List.append_assoc, runA_plain _ _ _ (dts_plain _), runA_sign _ _ _ _ _ hx]
  simp
theorem toks_seg (ρ : List Nat) (hr : ∀ e ∈ ρ, e < 7) (i : Nat) (hi : i ≤ ρ.length) (p : Pt) (hp : PtOk p) (t : List Nat) : toks (seg ρ i p ++ t) = rdAll (seg (ρ ++ [0]) i p) t := by
  obtain ⟨d, x, e, hx⟩ := spl_sign hr hp.sign
  have hd := hp.dots
  obtain ⟨n, hn⟩ : ∃ n, p.2.2.1 + (ρ.drop i).count 1 = n + 1 := ⟨p.2.2.1 + (ρ.drop i).count 1 - 1, by omega⟩
  rw [seg_read ρ i hi]
  unfold seg
  rw [hn, e, List.append_assoc, List.append_assoc, toks_dts]
  exact rdAll_of (runA_sign _ _ _ _ _ hx)
theorem tail_read (ρ : List Nat) (hr : ∀ e ∈ ρ, e < 7) : ∀ (ps : List Pt), (∀ p ∈ ps, PtOk p) → ∀ tok, rdAll tok (tailW ρ ps).1 ++ (tailW ρ ps).2.flatMap toks = (tok ++ (tailW (ρ ++ [0]) ps).1) :: (tailW (ρ ++ [0]) ps).2
  | [], _, tok => by
    show (runA tok []).1 :: toks (runA tok []).2 ++ [] = [tok ++ []]
    simp [runA, toks_nil]
  | p :: ps, h, tok => by
    have ih := tail_read ρ hr ps fun q hq => h q (.tail _ hq)
    have hp := h p (.head _)
    unfold tailW
    cases hc : cut ρ p.1 p.2.1 with
    | some i =>
      have hi := Nat.le_of_lt (cut_lt _ _ _ _ hc)
      rw [cut_some ρ _ _ _ hc]
      dsimp only
      rw [List.flatMap_cons, toks_seg ρ hr i hi p hp, ih, read_count, half_succ]
      unfold rdAll
      rw [runA_marksEnd]
      simp [toks_nil]
    | none =>
      dsimp only
      by_cases hh : hid ρ p.1 = true
      · rw [cut_hid ρ _ _ hc hh]
        dsimp only
        rcases spl_form ρ hr p.1 with e | ⟨x, e, hx⟩
        · have := (hid_spl ρ p.1 hp.b.1).mpr e
          rw [hh] at this; cases this
        · have hx' : plainL (38 :: x) := fun a ha => by
            rcases List.mem_cons.mp ha with rfl | ha
            · decide
            · exact hx a ha
          have e1 : runA tok (bsl (half p.2.1 (ρ.count 0)) ++ spl ρ p.1 ++ seg ρ ρ.length p ++ (tailW ρ ps).1) = runA (tok ++ bsl (half p.2.1 (ρ.count 0) / 2) ++ spl ρ p.1 ++ seg (ρ ++ [0]) ρ.length p) (tailW ρ ps).1 := by
            rw [e, List.append_assoc, List.append_assoc, runA_sign _ _ _ _ _ hx', runA_seg ρ hr _ (Nat.le_refl _) p hp]
          rw [rdAll_of e1, ih, read_count, half_succ, spl_pass (by decide), seg_late _ _ _ (by decide)]
          simp
      · have hh' : hid ρ p.1 = false := by simpa using hh
        have e := (hid_spl ρ p.1 hp.b.1).mp hh'
        rw [cut_read ρ _ _ hc hh', e]
        by_cases hm : half p.2.1 (ρ.count 0) % 2 = 0
        · rw [if_pos hm]
          dsimp only
          have e1 : runA tok (bsl (half p.2.1 (ρ.count 0)) ++ [p.1] ++ seg ρ ρ.length p ++ (tailW ρ ps).1) = (tok ++ bsl (half p.2.1 (ρ.count 0) / 2), seg ρ ρ.length p ++ (tailW ρ ps).1) := by
            have e2 : bsl (half p.2.1 (ρ.count 0)) ++ [p.1] ++ seg ρ ρ.length p ++ (tailW ρ ps).1 = bsl (half p.2.1 (ρ.count 0)) ++ p.1 :: (seg ρ ρ.length p ++ (tailW ρ ps).1) := by simp
            rw [e2, runA_marks, if_neg (by omega), runA_end2 _ _ _ hp.b.2.2.2.1]
          unfold rdAll
          rw [e1]
          dsimp only
          rw [toks_seg ρ hr _ (Nat.le_refl _) p hp, List.cons_append, ih, read_count, half_succ]
        · rw [if_neg hm]
          dsimp only
          have e1 : runA tok (bsl (half p.2.1 (ρ.count 0)) ++ [p.1] ++ seg ρ ρ.length p ++ (tailW ρ ps).1) = runA (tok ++ bsl (half p.2.1 (ρ.count 0) / 2) ++ [p.1] ++ seg (ρ ++ [0]) ρ.length p) (tailW ρ ps).1 := by
            have e2 : bsl (half p.2.1 (ρ.count 0)) ++ [p.1] ++ seg ρ ρ.length p ++ (tailW ρ ps).1 = bsl (half p.2.1 (ρ.count 0)) ++ p.1 :: (seg ρ ρ.length p ++ (tailW ρ ps).1) := by simp
            rw [e2, runA_marks, if_pos (by omega), runA_seg ρ hr _ (Nat.le_refl _) p hp]
          rw [rdAll_of e1, ih, read_count, half_succ, spl_pass (by decide), seg_late _ _ _ (by decide), e]
          simp
theorem words_read (ρ : List Nat) (hr : ∀ e ∈ ρ, e < 7) (ps : List Pt) (h : ∀ p ∈ ps, PtOk p) : wordsW (ρ ++ [0]) ps = (wordsW ρ ps).flatMap (doneOf 0) := by
  have e : doneOf 0 = toks := by funext l; rfl
  rw [e]
  cases ps with
  | nil => rfl
  | cons p ps =>
    rw [wordsW_cons, wordsW_cons, List.flatMap_cons, toks_seg ρ hr 0 (Nat.zero_le _) p (h p (.head _)), tail_read ρ hr ps fun q hq => h q (.tail _ hq)]
/-- a deed on all waiting words -/
theorem words_step (d : Nat) (hd : d < 7) (ρ : List Nat) (hr : ∀ e ∈ ρ, e < 7) (ps : List Pt) (h : ∀ p ∈ ps, PtOk p) : wordsW (ρ ++ [d]) ps = (wordsW ρ ps).flatMap (doneOf d) := by
  rcases d with _ | _ | d
  · exact words_read ρ hr ps h
  · exact words_send ρ ps h
  · exact words_esc (by omega) ρ hr ps h
end Mine
end SLw2
section SLv2
open PySem PySem.W PyProof.Rows PySem.Calls
set_option Elab.async false
set_option maxRecDepth 100000
set_option maxHeartbeats 8000000
set_option pp.maxSteps 400
set_option autoImplicit false
namespace Mine
def onLast (f : List Nat → List Nat) : List (List Nat) → List (List Nat)
  | [] => []
  | [x] => [f x]
  | x :: y :: r => x :: onLast f (y :: r)
def pre (x : List Nat) : List (List Nat) → List (List Nat)
  | [] => []
  | a :: r => (x ++ a) :: r
theorem pre_last (x y : List Nat) : ∀ l, onLast (· ++ y) (pre x l) = pre x (onLast (· ++ y) l)
  | [] => rfl
  | [a] => by show [x ++ a ++ y] = [x ++ (a ++ y)]; rw [List.append_assoc]
  | a :: b :: r => rfl
def tailL (ρ : List Nat) (ps : List Pt) : List (List Nat) := (tailW ρ ps).1 :: (tailW ρ ps).2
theorem tailL_cons (ρ : List Nat) (q : Pt) (ps : List Pt) : tailL ρ (q :: ps) = match cut ρ q.1 q.2.1 with
    | some i => bsl (half q.2.1 (ρ.count 0)) :: pre (seg ρ i q) (tailL ρ ps)
    | none => pre (bsl (half q.2.1 (ρ.count 0)) ++ spl ρ q.1 ++ seg ρ ρ.length q) (tailL ρ ps) := by
  unfold tailL
  conv => lhs; unfold tailW
  cases cut ρ q.1 q.2.1 <;> rfl
theorem words_tailL (ρ : List Nat) (q : Pt) (ps : List Pt) : wordsW ρ (q :: ps) = pre (seg ρ 0 q) (tailL ρ ps) := rfl
/-- a part more -/
def addP (ρ : List Nat) (p : Pt) (ws : List (List Nat)) : List (List Nat) := match cut ρ p.1 p.2.1 with
  | some i => onLast (· ++ bsl (half p.2.1 (ρ.count 0))) ws ++ [seg ρ i p]
  | none => onLast (· ++ (bsl (half p.2.1 (ρ.count 0)) ++ spl ρ p.1 ++ seg ρ ρ.length p)) ws
theorem addP_pre (ρ : List Nat) (p : Pt) (x a : List Nat) (r : List (List Nat)) : addP ρ p (pre x (a :: r)) = pre x (addP ρ p (a :: r)) := by
  unfold addP
  cases cut ρ p.1 p.2.1 with
  | none => dsimp only; rw [pre_last]
  | some i =>
    dsimp only
    rw [pre_last]
    cases r <;> rfl
theorem addP_cons (ρ : List Nat) (p : Pt) (x a : List Nat) (r : List (List Nat)) : addP ρ p (x :: a :: r) = x :: addP ρ p (a :: r) := by
  unfold addP
  cases cut ρ p.1 p.2.1 with
  | none => rfl
  | some i => rfl
theorem tailL_snoc (ρ : List Nat) (p : Pt) : ∀ ps : List Pt, tailL ρ (ps ++ [p]) = addP ρ p (tailL ρ ps)
  | [] => by
    rw [List.nil_append, tailL_cons]
    unfold addP
    cases cut ρ p.1 p.2.1 with
    | none => show pre _ [[]] = [[] ++ _]; simp [pre]
    | some i => show _ :: pre _ [[]] = [[] ++ _] ++ [_]; simp [pre]
  | q :: ps => by
    rw [List.cons_append, tailL_cons, tailL_cons, tailL_snoc ρ p ps]
    cases cut ρ q.1 q.2.1 with
    | none =>
      dsimp only
      unfold tailL
      rw [addP_pre]
    | some i =>
      dsimp only
      unfold tailL
      have := addP_pre ρ p (seg ρ i q) (tailW ρ ps).1 (tailW ρ ps).2
      rw [← this]
      show _ = addP ρ p (_ :: (_ ++ _) :: _)
      rw [addP_cons]
      rfl
theorem words_snoc (ρ : List Nat) (p : Pt) (q : Pt) (ps : List Pt) : wordsW ρ (q :: ps ++ [p]) = addP ρ p (wordsW ρ (q :: ps)) := by
  rw [List.cons_append, words_tailL, words_tailL, tailL_snoc]
  unfold tailL
  rw [addP_pre]
-- what the law asks of a blank
def ones1 : Nat → Nat → Nat
  | 0, _ => 0
  | n + 1, m => if m % 2 = 1 then ones1 n (m / 2) + 1 else 0
/-- the readings -/
def rdL : List Nat → List Nat
  | [] => []
  | d :: r => if d = 0 then 0 :: (rdL r).map (· + 1) else (rdL r).map (· + 1)
/-- the first deed that hides a blank -/
def fh (b : Nat) : List Nat → Nat
  | [] => 0
  | d :: r => if (nameAt (tabOf d) (S [b])).isSome then 0 else fh b r + 1
theorem rdL_len : ∀ ρ : List Nat, (rdL ρ).length = ρ.count 0
  | [] => rfl
  | d :: r => by
    unfold rdL
    rw [List.count_cons]
    split
    · next h => rw [List.length_cons, List.length_map, rdL_len r]; simp [h]
    · next h => rw [List.length_map, rdL_len r]; simp [h]
theorem cut_law (b : Nat) : ∀ (ρ : List Nat) (n m : Nat), m < 2 ^ n → cut ρ b m = match (rdL ρ)[ones1 n m]? with
    | some i => if i < fh b ρ then some i else none
    | none => none
  | [], n, m, _ => by simp [cut, rdL]
  | d :: r, n, m, hm => by
    unfold cut rdL fh
    by_cases hd : d = 0
    · subst hd
      rw [if_pos rfl, if_pos rfl, tab0]
      by_cases h2 : m % 2 = 0
      · rw [if_pos h2]
        have e : ones1 n m = 0 := by
          cases n with
          | zero => rfl
          | succ n => unfold ones1; rw [if_neg (by omega)]
        rw [e]
        simp
      · rw [if_neg h2]
        obtain ⟨k, rfl⟩ : ∃ k, n = k + 1 := by
          cases n with
          | zero => have : m = 0 := by simpa using hm
                    subst this; exact absurd rfl h2
          | succ k => exact ⟨k, rfl⟩
        have e : ones1 (k + 1) m = ones1 k (m / 2) + 1 := if_pos (by omega)
        have hm2 : m / 2 < 2 ^ k := by rw [Nat.pow_succ] at hm; omega
        rw [cut_law b r k (m / 2) hm2, e, List.getElem?_cons_succ, List.getElem?_map]
        cases (rdL r)[ones1 k (m / 2)]? with
        | none => rfl
        | some i =>
          simp only [Option.map_some, Option.isSome_none, Bool.false_eq_true, if_false]
          by_cases hi : i < fh b r
          · rw [if_pos hi, if_pos (by omega)]; rfl
          · rw [if_neg hi, if_neg (by omega)]; rfl
    · rw [if_neg hd, if_neg hd, List.getElem?_map]
      by_cases hn : (nameAt (tabOf d) (S [b])).isSome = true
      · rw [if_pos hn, if_pos hn]
        cases (rdL r)[ones1 n m]? with
        | none => rfl
        | some i => rfl
      · rw [if_neg hn, if_neg hn, cut_law b r n m hm]
        cases (rdL r)[ones1 n m]? with
        | none => rfl
        | some i =>
          simp only [Option.map_some]
          by_cases hi : i < fh b r
          · rw [if_pos hi, if_pos (by omega)]; rfl
          · rw [if_neg hi, if_neg (by omega)]; rfl
end Mine
end SLv2
section SDn2
open PySem PySem.W PyProof.Rows PySem.Calls
set_option Elab.async false
set_option maxRecDepth 100000
set_option maxHeartbeats 8000000
set_option pp.maxSteps 400
set_option autoImplicit false
namespace Mine
def doneWh (K : Frag) : Option (PySem.Str × Scope × Value × Stmt) := match K.lookup 160 with
  | some ⟨_, _, .func ⟨_, q, _, .stmts [_, _, _, _, _, st, _], sc, _, _, _, _, _, _, _, cd, _, _⟩, _⟩ => some (q, sc, cd, st)
  | _ => none
def restToks (tok l : List Nat) : List (List Nat) := if tok = [] then [] else tok :: toks l
theorem toks_rest (l : List Nat) : toks l = restToks (lexTok l).1 (lexTok l).2 := by
  unfold toks restToks
  show (if (lexTok l).1 = [] then [] else (lexTok l).1 :: toksN l.length (lexTok l).2) = _
  by_cases h : (lexTok l).1 = []
  · rw [if_pos h, if_pos h]
  · rw [if_neg h, if_neg h]
    have hne : l ≠ [] := fun e => h (by rw [e]; rfl)
    have := lexTok_lt hne
    rw [toksN_enough l.length ((lexTok l).2.length + 1) _ this (by omega)]; rfl
end Mine
end SDn2
section SPt2
namespace Mine
theorem fresh13 : True := by
  w_top off
  trivial
end Mine
open PySem PySem.W PyProof.Rows PySem.Calls
set_option Elab.async false
set_option maxRecDepth 100000
set_option maxHeartbeats 8000000
set_option pp.maxSteps 400
set_option autoImplicit false
namespace Mine
/-- what a number tells of a part -/
def ptSigns (n : Nat) : List Nat := [38, 60, 62, 34, 97, 46, 35, 160 + n / 1024 % 50000]
def ptOf (n : Nat) : Pt := ([32, 9].getD (n / 8 % 2) 0, n % 8, n / 16 % 2 + 1, n / 32 % 4, (ptSigns n).getD (n / 128 % 8) 0)
theorem of_pt : PySem.Str.ofString "&<>\"a.#" = S [38, 60, 62, 34, 97, 46, 35] := by decide +kernel
theorem pt_text (n : Nat) : (PySem.Str.ofString "&<>\"a.#" ++ { cps := #[(160 + ((n : Int).fdiv 1024).fmod 50000).toNat] } : PySem.Str) = S (ptSigns n) := by
  have e : (160 + ((n : Int).fdiv 1024).fmod 50000).toNat = 160 + n / 1024 % 50000 := by
    have := fdm n 1024 50000
    rw [show ((n : Int).fdiv 1024).fmod 50000 = ((n / 1024 % 50000 : Nat) : Int) from this]; omega
  rw [e, of_pt]
  exact S_append _ [160 + n / 1024 % 50000]
abbrev partObj (p : Pt) (t1 t2 t3 t4 t5 : Tok) : Obj := { cls := .type "tuple", data := .seq #[.str (S [p.1]) t1, .int (p.2.1 : Int) t2, .int (p.2.2.1 : Int) t3, .int (p.2.2.2.1 : Int) t4, .str (S [p.2.2.2.2]) t5] }
theorem ct_part0 (w : World) (n : Nat) (t : Tok) (h5 : n < 1000000000) (own : List (Addr × Obj)) :
    Ct0 w 20 200 153 [.int (n : Int) t] own True (fun v n' => ∃ T t1 t2 t3 t4 t5, v = .ref T ∧ AllLt T own ∧ n' = (T, partObj (ptOf n) t1 t2 t3 t4 t5) :: own) := by
  unfold Ct0
  k_fill
  intro p loose mean mg mb dp un gd env outer A₀ base h₀ L m s Q E B F X N T hf hk hdp hun hx hret
  k_dflt ktr_enter
  refine gentoks2 (show 1 ≤ s.toks + 1 from Nat.le_add_left 1 _) ?_
  intro tk htk1
  refine wpAny_with_toks (n := 1) htk1 ?_
  have h0 : (0 : Int) ≤ (n : Int) := Int.natCast_nonneg n
  have h9 : (n : Int) < 1000000000 := by omega
  k_steps
  refine' txt_item (l := ptSigns n) (n / 128 % 8) (pt_text n) (fdm n 128 8) ?_ ?_ ?_
  case _ => exact Nat.mod_lt _ (by decide)
  case _ => exact (show (8 : Nat) ≤ 1000000 by decide)
  k_steps
  have e1 : Txt.item (PySem.Str.ofString " \t") (((n : Int).fdiv 8).fmod 2) = S [[32, 9].getD (n / 8 % 2) 0] := by
    rw [show ((n : Int).fdiv 8).fmod 2 = ((n / 8 % 2 : Nat) : Int) from fdm n 8 2]
    have h2 : n / 8 % 2 < 2 := Nat.mod_lt _ (by decide)
    generalize n / 8 % 2 = i at h2
    rcases i with _ | _ | i
    · decide +kernel
    · decide +kernel
    · omega
  have e2 : (n : Int).fmod 8 = ((n % 8 : Nat) : Int) := fmn n 8
  have e3 : ((n : Int).fdiv 16).fmod 2 + 1 = ((n / 16 % 2 + 1 : Nat) : Int) := by rw [show ((n : Int).fdiv 16).fmod 2 = ((n / 16 % 2 : Nat) : Int) from fdm n 16 2]; omega
  have e4 : ((n : Int).fdiv 32).fmod 4 = ((n / 32 % 4 : Nat) : Int) := fdm n 32 4
  rename Fr h₀ L _ _ => kF9
  rename News h₀ L _ _ => kN9
  rw [e1, e2, e3, e4] at kN9
  exact hret _ _ _ ((_, partObj (ptOf n) _ _ _ _ _) :: own) kF9 kN9 (by assumption) ⟨_, _, _, _, _, _, rfl, by assumption, rfl⟩
end Mine
end SPt2
section SDo2
local macro_rules | `(tactic| walk_at "z") => `(tactic| skip)
namespace Mine
theorem fresh14 : True := by
  w_top off
  trivial
end Mine
open PySem PySem.W PyProof.Rows PySem.Calls
set_option Elab.async false
set_option maxRecDepth 100000
set_option maxHeartbeats 8000000
set_option pp.maxSteps 400
set_option autoImplicit false
namespace Mine
theorem Fr_ch {h₀ h : Heap} {L : Addr} {m : PySem.Str → Option Value} {x1 : PySem.Str} {v1 : Value} (F : Fr h₀ L h m) (h1 : m x1 = some v1) : Fr h₀ L h (fun y => if y = x1 then some v1 else m y) := Fr_chain [(x1, v1)] F (by simp only [List.forall_mem_cons]; exact ⟨h1, fun _ h => nomatch h⟩)
theorem Fr_ch2 {h₀ h : Heap} {L : Addr} {m : PySem.Str → Option Value} (x1 x2 : PySem.Str) {v1 v2 : Value} (F : Fr h₀ L h m) (h1 : m x1 = some v1) (h2 : m x2 = some v2) :
    Fr h₀ L h (fun y => if y = x1 then some v1 else if y = x2 then some v2 else m y) :=
  Fr_chain [(x1, v1), (x2, v2)] F (by simp only [List.forall_mem_cons]; exact ⟨h1, h2, fun _ h => nomatch h⟩)
theorem Fr_ch4 {h₀ h : Heap} {L : Addr} {m : PySem.Str → Option Value} (x1 x2 x3 x4 : PySem.Str) {v1 v2 v3 v4 : Value} (F : Fr h₀ L h m) (h1 : m x1 = some v1) (h2 : m x2 = some v2) (h3 : m x3 = some v3) (h4 : m x4 = some v4) :
    Fr h₀ L h (fun y => if y = x1 then some v1 else if y = x2 then some v2 else if y = x3 then some v3 else if y = x4 then some v4 else m y) :=
  Fr_chain [(x1, v1), (x2, v2), (x3, v3), (x4, v4)] F (by simp only [List.forall_mem_cons]; exact ⟨h1, h2, h3, h4, fun _ h => nomatch h⟩)
/-- the maps agree off these names -/
def AgOff (xs : List PySem.Str) (m m' : PySem.Str → Option Value) : Prop := ∀ y, y ∉ xs → m' y = m y
theorem AgOff.get {xs : List PySem.Str} {m m' : PySem.Str → Option Value} (h : AgOff xs m m') {y : PySem.Str} {v : Value} (hv : m y = some v) (hy : y ∉ xs := by decide) : m' y = some v := (h y hy).trans hv
theorem AgOff.refl (xs : List PySem.Str) (m : PySem.Str → Option Value) : AgOff xs m m := fun _ _ => rfl
theorem AgOff.trans {xs : List PySem.Str} {m m' m'' : PySem.Str → Option Value} (h : AgOff xs m m') (h' : AgOff xs m' m'') : AgOff xs m m'' := fun y hy => (h' y hy).trans (h y hy)
theorem AgOff.sub {xs ys : List PySem.Str} {m m' : PySem.Str → Option Value} (h : AgOff xs m m') (hs : ∀ x ∈ xs, x ∈ ys) : AgOff ys m m' := fun y hy => h y fun hx => hy (hs y hx)
theorem AgOff.set {xs : List PySem.Str} {m m' : PySem.Str → Option Value} {x : PySem.Str} {v : Value} (h : AgOff xs m m') (hx : x ∈ xs := by decide) : AgOff xs m (fun y => if y = x then some v else m' y) := fun y hy => by
  show (if y = x then some v else m' y) = m y
  rw [if_neg fun e : y = x => hy (e ▸ hx)]; exact h y hy
theorem AgOff.chain {xs : List PySem.Str} {m : PySem.Str → Option Value} {l : List (PySem.Str × Value)} (hl : ∀ p ∈ l, m p.1 = some p.2) : AgOff xs m (Mine.chain l m) := by rw [chain_eq hl]; exact AgOff.refl _ _
theorem AgOff.ch2 {xs : List PySem.Str} {m : PySem.Str → Option Value} {x1 x2 : PySem.Str} {v1 v2 : Value} (h1 : m x1 = some v1) (h2 : m x2 = some v2) : AgOff xs m (fun y => if y = x1 then some v1 else if y = x2 then some v2 else m y) :=
  AgOff.chain (l := [(x1, v1), (x2, v2)]) (by simp only [List.forall_mem_cons]; exact ⟨h1, h2, fun _ h => nomatch h⟩)
end Mine
local macro_rules | `(tactic| walk_at "call builtin:list.append") => `(tactic| (k_here; (with_reducible show wpAny _ _ (call (Value.builtin _) [Value.ref _, _]) _ _ _); k_dflt (refine' append_K (by k_asm) (by k_asm) (by k_upd) ?_ (by (simp only [strValues, List.size_toArray, List.length_map, sizeLine_eq]; omega)); k_whole); intro _ _ _; (try (dsimp only; (with_reducible refine Mine.gentoks2 ?hX9 ?_); (case hX9 => first | assumption | (dsimp only; omega)); intro _ _)); (try k_sweep)))
local macro_rules | `(tactic| walk_at "call ref") => `(tactic| (refine Mine.Hold.out ?_))
namespace Mine
theorem tok_ne {tok : List Nat} (h : (S tok != PySem.Str.ofString "") = true) : tok ≠ [] := fun e => by
  subst e
  revert h
  decide +kernel
theorem tok_eq {tok : List Nat} (h : (S tok != PySem.Str.ofString "") = false) : tok = [] := by
  have e : PySem.Str.ofString "" = S [] := by decide +kernel
  rw [e] at h
  have h2 : S tok = S [] := by simpa using h
  exact S_inj h2
theorem doneRelay {h₀ h : Heap} {L : Addr} {x : Addr × Obj} {X9 : LexA} {line : Int} {u : Tok} {qs ys : List (PySem.Str × Tok)} {nq ny : Nat} {own : List (Addr × Obj)} (N : News h₀ L h (x :: (lexLed X9 line u qs nq ys ny ++ own))) : News h₀ L h (lexLed X9 line u qs nq ys ny ++ x :: own) := fun p hp => N p (by
  rcases List.mem_append.mp hp with hp | hp
  · exact .tail _ (List.mem_append_left _ hp)
  · rcases List.mem_cons.mp hp with rfl | hp
    · exact .head _
    · exact .tail _ (List.mem_append_right _ hp))
/-- where the loop of _law_done stands -/
def DInv (X9 : LexA) (nq : Nat) (D : Addr) (own : List (Addr × Obj)) (target : List PySem.Str) (k : Nat) (m' : PySem.Str → Option Value) (n' : List (Addr × Obj)) : Prop :=
  ∃ tok' l' found c line' u' ny' ys' t', k = (if tok' = [] then 0 else l'.length + 1) ∧ m' ("token" : PySem.Str) = some (.str (S tok') t') ∧ m' ("reader" : PySem.Str) = some (.ref X9.x) ∧ m' ("found" : PySem.Str) = some (.ref D) ∧ ys'.map (·.1) = ones l'.reverse ∧ l'.length ≤ 20000 ∧ found.length + l'.length ≤ 20000 + (if tok' = [] then 1 else 0) ∧
    found.map (·.1) ++ (restToks tok' l').map S = target ∧ n' = lexLed X9 line' u' [] nq ys' ny' ++ (D, listOf (strValues found).toArray c) :: own
theorem done_step {env : Env} {h₀ h' : Heap} {s : Shared} {tk : Nat} {Q : Flow → Shared → Prop} {X9 : LexA} {nq ny9 c : Nat} {D : Addr} {own : List (Addr × Obj)} {target : List PySem.Str} {tok' l' : List Nat} {found ys9 : List (PySem.Str × Tok)} {line9 : Int} {u9 t' t9 : Tok} {mm : PySem.Str → Option Value}
    (hne : tok' ≠ []) (hl' : l'.length ≤ 20000) (hfl : found.length + l'.length ≤ 20000 + (if tok' = [] then 1 else 0)) (hl0 : l' = [] → (lexTok l').1 = []) (hsum : found.map (·.1) ++ (restToks tok' l').map S = target)
    (F : Fr h₀ env.locals h' mm) (N : News h₀ env.locals h' (lexLed X9 line9 u9 [] nq ys9 ny9 ++ (D, listOf ((strValues found).toArray.push (.str (S tok') t')) (c + 1)) :: own)) (ht : 1 ≤ tk)
    (g1 : mm ("token" : PySem.Str) = some (.str (S (lexTok l').1) t9)) (g2 : mm ("reader" : PySem.Str) = some (.ref X9.x)) (g3 : mm ("found" : PySem.Str) = some (.ref D)) (hys9 : ys9.map (·.1) = ones (lexTok l').2.reverse) :
    WTurnJ env h₀ (DInv X9 nq D own target) s (if tok' = [] then 0 else l'.length + 1) Q .next { s with heap := h', toks := tk } := by
  have e : (strValues found).toArray.push (.str (S tok') t') = (strValues (found ++ [(S tok', t')])).toArray := by simp [strValues]
  rw [e] at N
  have hle := lexTok_le l'
  refine ⟨if (lexTok l').1 = [] then 0 else (lexTok l').2.length + 1, ?_, h', tk, mm, _, rfl, ht, ⟨(lexTok l').1, (lexTok l').2, found ++ [(S tok', t')], c + 1, line9, u9, ny9, ys9, t9, rfl, g1, g2, g3, hys9, by omega, ?_, ?_, rfl⟩, F, N⟩
  · rw [if_neg hne]
    split
    · omega
    · next h =>
      have : l' ≠ [] := fun e => h (hl0 e)
      have := lexTok_lt this
      omega
  · rw [if_neg hne] at hfl
    rw [List.length_append]
    show found.length + 1 + _ ≤ _
    by_cases h : l' = []
    · rw [if_pos (hl0 h)]; omega
    · have := lexTok_lt h
      omega
  · rw [← hsum, List.map_append, List.append_assoc]
    congr 1
    have e2 : restToks tok' l' = tok' :: toks l' := by unfold restToks; rw [if_neg hne]
    rw [e2, toks_rest l']; rfl
section
variable {w : World} {p : Program} {loose : List Str} {mean : ExcName → Option Value} {mg mb : Str → Option Value} {dp un : Nat} {gd : Option (List Code)} {outer : List Env} {A₀ : Around} {base h₀ : Heap} {L : Addr} {s : Shared} {E : Value → Shared → Prop} {Q : Flow → Shared → Prop} {m : PySem.Str → Option Value} {sc : Scope} {st : Stmt} {qn : PySem.Str} {fa : Addr} {cd : Value}
theorem doneLoop (hst : doneWh (hd.heap_39 w.params) = some (qn, sc, cd, st)) {X9 : LexA} (ok : LexOk w X9) {D : Addr} {line : Int} {u t1 : Tok} {nq ny : Nat} {ys : List (PySem.Str × Tok)} {tok l : List Nat} (hys : ys.map (·.1) = ones l.reverse) (hl : l.length ≤ 20000) {own : List (Addr × Obj)} (hoff : OwnOff own X9.adrs) (hO : OwnOff own [D]) (hadr : ∀ b ∈ X9.adrs, D ≠ b)
    (F : Fr h₀ L s.heap m) (N : News h₀ L s.heap (lexLed X9 line u [] nq ys ny ++ (D, listOf (strValues []).toArray 0) :: own)) (B : Below A₀ base outer h₀) (X : (hd.heap_39 w.params).In h₀) (T9 : Top p loose mean mg mb h₀) (hdp : dp + 160 < recursionLimit) (hu : un + 1600 < cLine) (ht : 1 ≤ s.toks)
    (h1 : m ("token" : PySem.Str) = some (.str (S tok) t1)) (h2 : m ("reader" : PySem.Str) = some (.ref X9.x)) (h3 : m ("found" : PySem.Str) = some (.ref D))
    (hret : ∀ h' tk' m' found c, 1 ≤ tk' → Fr h₀ L h' m' → m' ("found" : PySem.Str) = some (.ref D) → found.map (·.1) = (restToks tok l).map S → News h₀ L h' ((D, listOf (strValues found).toArray c) :: (X9.cc, X9.CO) :: own) → Q .next { s with heap := h', toks := tk' }) :
    wpAny (model PySem.Challenge.rw_rw0051_02.row.prog w) (cT dp un gd (envOf qn sc L fa cd) outer) (exec st (envOf qn sc L fa cd)) Q E s := by
  have e : doneWh (hd.heap_39 w.params) = some (_, _, _, _) := rfl
  rw [e] at hst
  cases hst
  clear e
  revert X
  k_fill
  intro X
  have n1 : @Ne Nat X9.x D := Ne.symm (hadr _ (by simp))
  have n2 : @Ne Nat X9.dx D := Ne.symm (hadr _ (by simp))
  have n3 : @Ne Nat X9.pb D := Ne.symm (hadr _ (by simp))
  have n4 : @Ne Nat X9.tape D := Ne.symm (hadr _ (by simp))
  have n5 : @Ne Nat X9.dt D := Ne.symm (hadr _ (by simp))
  have n6 : @Ne Nat X9.lam D := Ne.symm (hadr _ (by simp))
  have n7 : @Ne Nat X9.cc D := Ne.symm (hadr _ (by simp))
  have n8 : @Ne Nat X9.cell D := Ne.symm (hadr _ (by simp))
  have n9 : @Ne Nat X9.sg D := Ne.symm (hadr _ (by simp))
  refine' whileJ (Inv := DInv X9 nq D own ((restToks tok l).map S)) ?F ?N ht ?hi ?turn
  case F => exact F
  case N => exact N
  case hi => exact ⟨tok, l, [], 0, line, u, ny, ys, t1, rfl, h1, h2, h3, hys, hl, by simp; omega, by simp, rfl⟩
  case turn =>
    rintro k h tk m₁ news₁ htk ⟨tok', l', found, c, line', u', ny', ys', t', hk, g1, g2, g3, hys', hl', hfl, hsum, rfl⟩ F N E'
    have hl9 : l'.length ≤ 100000 := by omega
    have hfl9 : found.length ≤ 20001 := by split at hfl <;> omega
    dsimp only [lexLed, List.cons_append, List.nil_append] at N
    replace F := Fr_ch4 "token" "reader" "found" "found" F g1 g2 g3 g3
    k_steps
    · unfold Hold
      k_dflt (refine' Mine.ct_useA (Mine.ct_getE _ _ (by assumption) _ _ _ _ _ ?hoffz4 _ _ ?hyz4 ?hlz4) trivial ?_; (case hoffz4 => first | assumption | exact Mine.off_cons (by assumption) (by assumption)); (case hyz4 => assumption); (case hlz4 => first | assumption | omega); k_whole; intro _ _ _ _ _ N' _ hp9; obtain ⟨_, _, _, _, _, e1, _, _, e2⟩ := hp9; subst e1; subst e2; (have hle9 := Mine.lexTok_le2 (by assumption)); (try k_sweep); (try dsimp only [Mine.lexLed, List.cons_append, List.nil_append] at N'))
      k_steps
      subst hk
      exact done_step (tok_ne (by assumption)) hl' hfl (fun e => by rw [e]; rfl) hsum (by k_asm) (by k_asm) (by assumption) (by exact rfl) (by exact rfl) (by exact rfl) (by assumption)
    · have hte : tok' = [] := tok_eq (by assumption)
      subst hte
      refine hret _ _ _ found c (by first | assumption | (dsimp only; omega)) (by k_asm) (by exact rfl) ?_ fun y hy => (show News h₀ L _ _ by k_asm) y ?_
      · rw [← hsum]; simp [restToks]
      · rcases List.mem_cons.mp hy with rfl | hy
        · exact List.mem_append_right (lexLed X9 line' u' [] nq ys' ny') (.head _)
        · rcases List.mem_cons.mp hy with rfl | hy
          · exact .tail _ (.tail _ (.tail _ (.tail _ (.tail _ (.tail _ (.head _))))))
          · exact List.mem_append_right (lexLed X9 line' u' [] nq ys' ny') (.tail _ hy)
end
end Mine
end SDo2
section SDe2
local macro_rules | `(tactic| walk_at "z") => `(tactic| skip)
namespace Mine
theorem fresh15 : True := by
  w_top off
  trivial
end Mine
open PySem PySem.W PyProof.Rows PySem.Calls
set_option Elab.async false
set_option maxRecDepth 100000
set_option maxHeartbeats 8000000
set_option pp.maxSteps 400
set_option autoImplicit false
local macro_rules | `(tactic| walk_at "call builtin:list.append") => `(tactic| (k_here; (with_reducible show wpAny _ _ (call (Value.builtin _) [Value.ref _, _]) _ _ _); k_dflt (refine' append_K (by k_asm) (by k_asm) (by k_upd) ?_ (by (simp only [strValues, List.size_toArray, List.length_map, sizeLine_eq]; omega)); k_whole); intro _ _ _; (try (dsimp only; (with_reducible refine Mine.gentoks2 ?hX9 ?_); (case hX9 => first | assumption | (dsimp only; omega)); intro _ _)); (try k_sweep)))
local macro_rules | `(tactic| walk_at "call ref") => `(tactic| (refine Mine.Hold.out ?_))
local macro_rules | `(tactic| walk_at "exec While Compare") => `(tactic| (refine Mine.Hold.out ?_))
namespace Mine
theorem ct_done0 (w : World) (l : List Nat) (t t2 : Tok) (cc : Addr) (CO : Obj) (own : List (Addr × Obj)) (hl : l.length ≤ 20000) (hoff : OwnOff own [134]) (hcc : OwnOff own [cc]) (hne : @Ne Nat 134 cc) (hco : CoOk CO) :
    Ct w 180 1900 160 [.str (S l) t, .int 0 t2] ((134, tabObj (lamTab cc)) :: (cc, CO) :: own) True
      (fun r n' => ∃ D xs c, r = .ref D ∧ (∀ p ∈ (134, tabObj (lamTab cc)) :: (cc, CO) :: own, p.1 ≠ D) ∧ xs.map (·.1) = (toks l).map S ∧ n' = (D, listOf (strValues xs).toArray c) :: (134, tabObj (lamTab cc)) :: (cc, CO) :: own) := by
  have hp139 : l.length ≤ 100000 ∧ OwnOff own [134] ∧ OwnOff own [cc] ∧ @Ne Nat 134 cc ∧ CoOk CO := ⟨by omega, hoff, hcc, hne, hco⟩
  have hl1 : l.length ≤ 100000 := by omega
  unfold Ct
  k_fill
  intro p loose mean mg mb dp un gd env outer A₀ base h₀ L m s Q E B F X N T hf hk hdp hun htk hx hret
  refine codeAny_with_toks htk ?_
  k_dflt ktr_enter
  refine gentoks2 (Nat.le_trans htk (Nat.le_add_right _ _)) ?_
  intro tk htk1
  k_steps
  unfold Hold
  k_dflt (refine' Mine.ct_useA (Mine.ct_mklexH _ _ _ _ _ _) ?hpz1 ?_; (case hpz1 => assumption); k_whole; intro _ _ _ _ _ N' _ hp9; obtain ⟨_, _, _, _, _, e1, _, _, _, _, _, e2⟩ := hp9; subst e1; subst e2; (try k_sweep); (try dsimp only [Mine.lexLed, List.cons_append, List.nil_append] at N'))
  k_steps
  unfold Hold
  k_dflt (refine' Mine.ct_useA (N := by first | k_asm | exact Mine.doneRelay (by k_asm) | exact PyProof.Rows.News.tail' (by k_asm)) (Mine.ct_getE _ _ (by assumption) _ _ _ _ _ ?hoffz2 _ _ ?hyz2 ?hlz2) trivial ?_; (case hoffz2 => first | assumption | (refine Mine.off_cons ?_ (by assumption); intro _ hb; simp only [Mine.LexA.adrs, List.mem_cons, List.not_mem_nil, or_false] at hb; rcases hb with hb | hb | hb | hb | hb | hb | hb | hb | hb <;> (subst hb; (try dsimp only); exact Nat.ne_of_gt (by with_reducible assumption)))); (case hyz2 => assumption); (case hlz2 => first | assumption | omega); k_whole; intro _ _ _ _ _ N' _ hp9; obtain ⟨_, _, _, _, _, e1, _, _, e2⟩ := hp9; subst e1; subst e2; (have hle9 := Mine.lexTok_le2 (by assumption)); (try k_sweep); (try dsimp only [Mine.lexLed, List.cons_append, List.nil_append] at N'))
  k_steps
  unfold Hold
  k_dflt (refine' Mine.doneLoop ?hstz3 (by assumption) ?hysz3 ?hlz3 ?hoffz3 ?hOz3 ?hadrz3 ?Fz3 ?Nz3 ?Bz3 ?Xz3 ?Tz3 ?hdpz3 ?huz3 ?htz3 ?h1z3 ?h2z3 ?h3z3 ?_; (case Fz3 => k_asm); (case Nz3 => k_asm); (case Bz3 => k_asm); (case Xz3 => k_asm); (case Tz3 => k_asm); (case hdpz3 => ktr_room); (case huz3 => ktr_units); (case htz3 => first | assumption | exact Nat.le_add_left 1 _ | (dsimp only; omega)); (case hstz3 => exact rfl); (case h1z3 => exact rfl); (case h2z3 => exact rfl); (case h3z3 => exact rfl); (case hysz3 => assumption); (case hlz3 => first | assumption | exact Nat.le_trans (Mine.lexTok_le _) (by assumption) | omega); (case hoffz3 => assumption); (case hOz3 => exact Mine.off_cons (fun b hb => by rw [List.mem_singleton.mp hb]; exact Nat.ne_of_lt (by with_reducible assumption)) (fun p hp b hb => by rw [List.mem_singleton.mp hb]; exact Nat.ne_of_lt (PySem.W.kst_ltOf (by assumption) p hp))); (case hadrz3 => (intro b hb; simp only [Mine.LexA.adrs, List.mem_cons, List.not_mem_nil, or_false] at hb; rcases hb with hb | hb | hb | hb | hb | hb | hb | hb | hb <;> (subst hb; (try dsimp only); exact Nat.ne_of_gt (by with_reducible assumption)))); k_whole; intro h' tk' m9 fd9 c9 htk' F' g9 hs9 N'; (replace F' := Mine.Fr_ch F' g9); (try dsimp only); (try k_sweep))
  k_steps
  rename News _ _ _ (_ :: _ :: _) => N9
  rename _ = cc => e1
  rename _ = CO => e2
  rename List.map _ _ = List.map S (restToks _ _) => e3
  rw [e1, e2] at N9
  refine' hret _ _ _ ((_, _) :: (134, tabObj (lamTab cc)) :: (cc, CO) :: own) ?F (fun p hp => N9 p (by
    simp only [List.mem_cons] at hp ⊢
    rcases hp with h | h | h | h
    · exact .inl h
    · exact .inr (.inr (.inl h))
    · exact .inr (.inl h)
    · exact .inr (.inr (.inr h)))) ?t ⟨_, _, _, rfl, ?off, e3.trans (by rw [← toks_rest]), rfl⟩
  case F => k_asm
  case t => assumption
  case off =>
    intro p hp
    rcases List.mem_cons.mp hp with rfl | hp
    · exact Nat.ne_of_lt (by assumption)
    · rcases List.mem_cons.mp hp with rfl | hp
      · show cc ≠ _
        rw [← e1]; exact Nat.ne_of_lt (by assumption)
      · exact Nat.ne_of_lt (PySem.W.kst_ltOf (by assumption) p hp)
end Mine
end SDe2
section SDd2
namespace Mine
theorem fresh16 : True := by
  w_top off
  trivial
end Mine
open PySem PySem.W PyProof.Rows PySem.Calls
set_option Elab.async false
set_option maxRecDepth 100000
set_option maxHeartbeats 8000000
set_option pp.maxSteps 400
set_option autoImplicit false
local macro_rules | `(tactic| walk_at "call builtin:list.append") => `(tactic| (k_here; (with_reducible show wpAny _ _ (call (Value.builtin _) [Value.ref _, _]) _ _ _); k_dflt (refine' append_K (by k_asm) (by k_asm) (by k_upd) ?_ (by (simp only [strValues, List.size_toArray, List.length_map, sizeLine_eq]; omega)); k_whole); intro _ _ _; (try (dsimp only; (with_reducible refine Mine.gentoks2 ?hX9 ?_); (case hX9 => first | assumption | (dsimp only; omega)); intro _ _)); (try k_sweep)))
namespace Mine
theorem escFnAt {w : World} {h₀ h : Heap} {L : Addr} {m : PySem.Str → Option Value} (k : Nat) (hk : k < 5) (X : (hd.heap_39 w.params).In h₀) (F : Fr h₀ L h m) : FnAt (escFn k) h := by
  have X' := X.keeps F.keep
  rcases k with _ | _ | _ | _ | _ | k
  · exact ⟨_, _, _, _, X' 104 _ (by rfl)⟩
  · exact ⟨_, _, _, _, X' 111 _ (by rfl)⟩
  · exact ⟨_, _, _, _, X' 118 _ (by rfl)⟩
  · exact ⟨_, _, _, _, X' 125 _ (by rfl)⟩
  · exact ⟨_, _, _, _, X' 132 _ (by rfl)⟩
  · omega
end Mine
local macro_rules | `(tactic| walk_at "call ref") => `(tactic| (refine Mine.Hold.out ?_))
namespace Mine
theorem escAt2 (d : Nat) (hd : d < 5) : ([.ref 104, .ref 111, .ref 118, .ref 125, .ref 132] : List Value)[(((d + 2 : Nat) : Int) - 2).toNat]? = some (.ref (escFn d)) := by
  have e : (((d + 2 : Nat) : Int) - 2).toNat = d := by omega
  rw [e]
  rcases d with _ | _ | _ | _ | _ | d
  · rfl
  · rfl
  · rfl
  · rfl
  · rfl
  · omega
local macro_rules | `(tactic| walk_at "ite") => `(tactic| (k_dflt (first | refine ite_neg (by simp <;> omega) ?_ | refine ite_pos (by simp <;> omega) ?_)))
theorem ct_done1 (w : World) (l : List Nat) (t t2 : Tok) (own : List (Addr × Obj)) (h10 : 10 ∉ l) (h13 : 13 ∉ l) (hl : l.length ≤ 20000) :
    Ct w 160 1600 160 [.str (S l) t, .int 1 t2] own True (fun r n' => ∃ D xs c, r = .ref D ∧ (∀ p ∈ own, p.1 ≠ D) ∧ xs.map (·.1) = [S (qd l)] ∧ n' = (D, listOf (strValues xs).toArray c) :: own) := by
  have hpq : l.length ≤ 1000000 ∧ 10 ∉ l ∧ 13 ∉ l := ⟨by omega, h10, h13⟩
  unfold Ct
  k_fill
  intro p loose mean mg mb dp un gd env outer A₀ base h₀ L m s Q E B F X N T hf hk hdp hun htk hx hret
  refine codeAny_with_toks htk ?_
  k_dflt ktr_enter
  refine gentoks2 (Nat.le_trans htk (Nat.le_add_right _ _)) ?_
  intro tk htk1
  k_steps
  unfold Hold
  k_dflt (refine' ct_useA (ct_quote _ _ _ _) hpq ?_; k_whole; intro _ _ _ _ _ N' _ hp9; obtain ⟨e2, _, e1⟩ := hp9; subst e1; rw [e2] at N'; clear e2; (try k_sweep))
  k_steps
  rename News _ _ _ (_ :: _) => N9
  refine' hret _ _ _ ((_, listOf (strValues [(S (qd l), _)]).toArray 0) :: own) ?F N9 ?t ⟨_, [(S (qd l), _)], 0, rfl, fun p hp => Nat.ne_of_lt (PySem.W.kst_ltOf (by assumption) p hp), rfl, rfl⟩
  case F => k_asm
  case t => assumption
theorem ct_done2 (w : World) (d : Nat) (hd : d < 5) (l : List Nat) (t t2 : Tok) (own : List (Addr × Obj)) (hl : l.length ≤ 20000) :
    Ct w 160 1600 160 [.str (S l) t, .int ((d + 2 : Nat) : Int) t2] own True (fun r n' => ∃ D xs c, r = .ref D ∧ (∀ p ∈ own, p.1 ≠ D) ∧ xs.map (·.1) = [S (repN (escOf d) l)] ∧ n' = (D, listOf (strValues xs).toArray c) :: own) := by
  have hpw : l.length ≤ 100000 := by omega
  unfold Ct
  k_fill
  intro p loose mean mg mb dp un gd env outer A₀ base h₀ L m s Q E B F X N T hf hk hdp hun htk hx hret
  refine codeAny_with_toks htk ?_
  k_dflt ktr_enter
  refine gentoks2 (Nat.le_trans htk (Nat.le_add_right _ _)) ?_
  intro tk htk1
  k_steps
  refine menu_item (vs := [.ref 104, .ref 111, .ref 118, .ref 125, .ref 132]) (v := .ref (escFn d)) (by k_asm) (.head _) (by omega) (by omega) (escAt2 d hd) ?_
  dsimp only
  refine callWith_F (escFnAt _ hd (by k_asm) (by k_asm)) ?_
  k_steps
  · exact escFnAt _ hd (by k_asm) (by k_asm)
  unfold Hold
  k_dflt (refine' ct_useA (ct_write _ _ hd _ _ _) hpw ?_; k_whole; intro _ _ _ _ _ N' _ hp9; obtain ⟨e2, _, e1⟩ := hp9; subst e1; rw [e2] at N'; clear e2; (try k_sweep))
  k_steps
  rename News _ _ _ (_ :: _ :: _) => N9
  refine' hret _ _ _ ((_, listOf (strValues [(S (repN (escOf d) l), _)]).toArray 0) :: own) ?F (fun p hp => N9 p (by
    rcases List.mem_cons.mp hp with h | h
    · rw [h]; exact .head _
    · exact .tail _ (.tail _ h))) ?t ⟨_, [(S (repN (escOf d) l), _)], 0, rfl, fun p hp => Nat.ne_of_lt (PySem.W.kst_ltOf (by assumption) p hp), rfl, rfl⟩
  case F => k_asm
  case t => assumption
end Mine
end SDd2
section WalkC
local macro_rules | `(tactic| walk_at "eval ListComp") => `(tactic| (k_here; (with_reducible refine' Mine.comp_w ?F (by with_unfolding_all rfl) (by decide) (by k_dflt rfl) (by decide) (by k_dflt rfl) (by k_dflt exact fun _ => rfl) ?_); (case F => k_asm)))
local macro_rules | `(tactic| walk_at "exec Assign cons ListComp") => `(tactic| (k_here; (with_reducible refine' Mine.comp_wA ?F ?L ?w ?c ?d ?k ?n ?x ?y ?p ?s ?_); (case F => k_asm); k_dflt ((case L => rfl); (case w => with_unfolding_all rfl); (case c => with_unfolding_all rfl); (case d => decide); (case k => rfl); (case n => decide); (case x => rfl); (case y => rfl); (case p => rfl); (case s => exact fun _ => rfl))))
local macro_rules | `(tactic| walk_at "eval Name") => `(tactic| (k_here; k_dflt (refine' nameX_F (by k_asm) (by exact rfl) (by k_mem) (by assumption) ?_ (by rfl) (by rfl); k_whole)))
local macro_rules | `(tactic| walk_at "exec For") => `(tactic| (k_here; k_dflt (refine Mine.forW (by k_asm) (fun _ => rfl) ?_)))
section SSp2
namespace Mine
theorem fresh17 : True := by
  w_top off
  trivial
end Mine
open PySem PySem.W PyProof.Rows PySem.Calls
set_option Elab.async false
set_option maxRecDepth 100000
set_option maxHeartbeats 8000000
set_option pp.maxSteps 400
set_option autoImplicit false
namespace Mine
/-- a table of names on the ledger -/
structure TabE where
  (D : Addr)
  (o : Obj)
  (d : Nat)
def tabRefs (es : List TabE) : List Value := es.map fun e => .ref e.D
def TabsOk (prog : Program) (w : World) (es : List TabE) : Prop := ∀ e ∈ es, (e.D == sysModules) = false ∧ NamesOf prog w e.o (tabOf e.d) ∧ e.d < 7
theorem tabRefs_at {es : List TabE} {i : Nat} {e : TabE} (h : es[i]? = some e) : (tabRefs es)[i]? = some (.ref e.D) := by
  unfold tabRefs
  rw [List.getElem?_map, h]; rfl
theorem areKV_len {ps : List (PySem.Str × PySem.Str)} {vs : List (Value × Value)} (h : AreKV ps vs) : (strPairs vs).length = ps.length := by
  have := congrArg List.length (areKV_keys h).2
  rw [List.length_map, List.length_map] at this
  exact this
/-- a table of names held against an empty dict -/
theorem tab_ne {prog : Program} {w : World} {A : Around} {E : Value → Shared → Prop} {s : Shared} {h₀ : Heap} {L d d2 : Addr} {o o2 : Obj} {news : List (Addr × Obj)} {ps : List (PySem.Str × PySem.Str)} {b : Bool} {Q : Value → Shared → Prop} (N : News h₀ L s.heap news) (m1 : (d, o) ∈ news) (h1 : NamesOf prog w o ps) (l1 : (d == sysModules) = false)
    (m2 : (d2, o2) ∈ news) (h2 : o2.IsDictOf (strKind prog w) []) (l2 : (d2 == sysModules) = false) (hu : A.units < cLine) (hb : (!(ps.length == 0)) = b) (h : Q (.bool b) s) : wpAny (model prog w) A (compareOp .NotEq (.ref d) (.ref d2)) Q E s := by
  obtain ⟨vs, hv, hd⟩ := h1
  refine keq_ne (knd := strKind prog w) (r := true) l1 l2 (Heap.dictOf_iff.mpr ⟨o, (N _ m1).1, hd⟩) (Heap.dictOf_iff.mpr ⟨o2, (N _ m2).1, h2⟩) hu (fun e => ?_) ?_
  · rw [List.length_eq_zero_iff.mp e]; exact KeqHits.nil
  · rw [areKV_len hv, Bool.and_true]
    show Q (.bool (!(ps.length == 0))) s
    rw [hb]; exact h
theorem tab_full {d : Nat} (hd : d < 7) : (!((tabOf d).length == 0)) = decide (2 ≤ d) := by
  rcases d with _ | _ | _ | _ | _ | _ | _ | d
  all_goals first | rfl | omega
theorem tabOf_len {d : Nat} (hd : d < 7) {c : PySem.Str} {x : PySem.Str} (h : nameAt (tabOf d) c = some x) : x.length ≤ 10 := by
  have key : ∀ d : Nat, d < 7 → ∀ p ∈ tabOf d, p.2.length ≤ 10 := by decide +kernel
  unfold nameAt at h
  cases hq : (tabOf d).find? (fun p => p.1 = c) with
  | none => rw [hq] at h; cases h
  | some p => rw [hq] at h; cases h; exact key d hd p (List.mem_of_find?_eq_some hq)
/-- the tables that are not empty -/
def fullTabs (es : List TabE) : List TabE := es.filter fun e => decide (2 ≤ e.d)
theorem fullTabs_len (es : List TabE) : (fullTabs es).length = (es.map (·.d)).countP (2 ≤ ·) := by
  unfold fullTabs
  rw [List.countP_map, ← List.countP_eq_length_filter]; rfl
theorem fullTabs_snoc (es : List TabE) (i : Nat) (e : TabE) (h : es[i]? = some e) : fullTabs (es.take (i + 1)) = fullTabs (es.take i) ++ (if 2 ≤ e.d then [e] else []) := by
  have : es.take (i + 1) = es.take i ++ [e] := by rw [List.take_add_one, h]; rfl
  unfold fullTabs
  rw [this, List.filter_append]
  congr 1
  by_cases hd : 2 ≤ e.d <;> simp [hd]
local macro_rules | `(tactic| walk_at "compareOp NotEq ref ref") => `(tactic| (refine Mine.Hold.out ?_))
local macro_rules | `(tactic| walk_at "exec Assign cons ListComp") => `(tactic| (refine Mine.Hold.out ?_))
local macro_rules | `(tactic| walk_at "compareOp In str ref") => `(tactic| (refine Mine.Hold.out ?_))
local macro_rules | `(tactic| walk_at "subscriptTail Name Name ref int") => `(tactic| (refine Mine.Hold.out ?_))
local macro_rules | `(tactic| walk_at "subscriptTail") => `(tactic| (refine Mine.Hold.out ?_))
local macro_rules | `(tactic| walk_at "subscriptTail Name Slice ref ref") => `(tactic| (refine Mine.Hold.out ?_))
local macro_rules | `(tactic| walk_at "exec For Name Call cons nil") => `(tactic| (refine Mine.Hold.out ?_))
theorem compEnd_drop {h₀ h' : Heap} {L I C D : Addr} {m : PySem.Str → Option Value} {s₁ : Shared} {oI oC oD : Obj} {nw : List (Addr × Obj)} {rest : Value → List (Addr × Obj) → Prop} {tk : Nat} {x : Addr × Obj} {y : Value}
    (F : Fr h₀ L h' m) (N : News h₀ L h' (x :: (I, oI) :: (C, oC) :: (D, oD) :: nw)) (off : LCg.Off3 I C D nw) (r : rest y nw) : LCg.CompEnd h₀ L m s₁ I oI C oC D oD (fun _ => True) rest y { s₁ with heap := h', toks := tk } :=
  LCg.CompEnd.intro F N _ (fun _ hp => .tail _ hp) off trivial r
theorem spelled_text (n : Nat) (x : PySem.Str) : PySem.Str.ofString "&" ++ Txt.mul (PySem.Str.ofString "amp;") ((n : Nat) : Int) ++ x = S (38 :: (ampN n ++ x.cps.toList)) := by
  have e : ((n : Nat) : Int) = ((n + 1 : Nat) : Int) - 1 := by omega
  rw [e, mul_amp (n + 1) (by omega), show n + 1 - 1 = n from rfl, of_amp]
  conv => lhs; rhs; rw [str_S x]
  rw [S_append [38] (ampN n), S_append]
  rfl
theorem spl_at {es : List TabE} {i : Nat} {e : TabE} (he : es[i]? = some e) : (es.map (·.d)).drop i = e.d :: (es.map (·.d)).drop (i + 1) := by
  have hi : i < (es.map (·.d)).length := by
    rw [List.length_map]
    rcases Nat.lt_or_ge i es.length with h | h
    · exact h
    · rw [List.getElem?_eq_none h] at he; cases he
  rw [List.drop_eq_getElem_cons hi]
  congr 1
  rw [List.getElem_map]
  have hi2 : i < es.length := by rw [List.length_map] at hi; exact hi
  have := List.getElem?_eq_getElem hi2
  rw [he] at this
  rw [← Option.some.inj this]
abbrev LtJ (ts : List TabE) (base : List (Addr × Obj)) (j : Nat) (ys : List Value) (nw : List (Addr × Obj)) : Prop := ys = tabRefs (fullTabs (ts.take j)) ∧ nw = base
theorem ct_spelled (w : World) (b : Nat) (t : Tok) (LN : Addr) (es : List TabE) (c : Nat) (own : List (Addr × Obj)) (h7 : es.length ≤ 7) (hok : TabsOk PySem.Challenge.rw_rw0051_02.row.prog w es) (h1 : (LN, listOf (tabRefs es).toArray c) ∈ own) (h2 : ∀ e ∈ es, (e.D, e.o) ∈ own) :
    Ct w 20 300 165 [.str (S [b]) t, .ref LN] own True (fun v n' => (∃ t', v = .str (S (spl (es.map (·.d)) b)) t') ∧ n' = own) := by
  unfold Ct
  k_fill
  intro p loose mean mg mb dp un gd env outer A₀ base h₀ L m s Q E B F X N T hf hk hdp hun htk hx hret
  refine codeAny_with_toks htk ?_
  k_dflt ktr_enter
  have hlen : (tabRefs es).toArray.size = es.length := by simp [tabRefs]
  with_reducible refine gentoks2 ?hX ?_
  case hX => with_reducible exact Nat.le_trans htk (Nat.le_add_right _ _)
  intro tk htk1
  k_steps
  unfold Hold
  k_dflt (refine Mine.forWT (by k_asm) (by first | assumption | (dsimp only; omega)) (fun _ => rfl) ?_)
  k_steps
  intro ht9
  rename News _ _ _ _ => N9
  refine' forAt_rangeK (n := es.length) (fun i m' => m' ("sign" : PySem.Str) = some (.str (S [b]) t) ∧ m' ("names" : PySem.Str) = some (.ref LN) ∧ spl ((es.map (·.d)).drop i) b = spl (es.map (·.d)) b) ?hh ?hr ?hs ?hn ?F ?N ?ht ?hj ?turn ?done
  case hh => exact rfl
  case F => k_asm
  case N => exact N9
  case hr => k_asm
  case hs => exact small_one (by decide) (by decide) (by omega) (by omega)
  case hn => rw [rangeSize_one]; split <;> omega
  case ht => first | assumption | (dsimp only; omega)
  case hj => exact ⟨rfl, rfl, rfl⟩
  case turn =>
    rintro I oI i t9 m₁ h tk E' hlt hi ⟨g1, g2, g3⟩ htk9 F N
    obtain ⟨e9, he9⟩ : ∃ e, es[i]? = some e := ⟨_, List.getElem?_eq_getElem hi⟩
    have hmem9 : e9 ∈ es := List.mem_of_getElem? he9
    obtain ⟨lo9, hd9, h97⟩ := hok _ hmem9
    have ho9 := h2 _ hmem9
    have hi0 : (0 : Int) + (i : Int) = (i : Int) := by omega
    rw [hi0]
    have hx9 : (tabRefs es)[((i : Int)).toNat]? = some (.ref e9.D) := tabRefs_at he9
    replace F := Fr_ch2 "sign" "names" F g1 g2
    have hb9 : ((i : Nat) : Int) < 2 ^ 63 := Int.lt_of_lt_of_le (Int.ofNat_lt.mpr (Nat.lt_of_lt_of_le hi h7)) (by decide)
    k_steps
    unfold Hold
    k_dflt (refine' menu_item (by k_asm) (by k_ownIn) (Int.natCast_nonneg _) hb9 hx9 ?_)
    k_steps
    unfold Hold
    cases hn9 : nameAt (tabOf e9.d) (S [b]) with
    | none =>
      k_dflt (refine' names_in (by k_asm) (by k_ownIn) (by assumption) (by assumption) false (by rw [hn9]; rfl) ?_)
      k_steps
      refine KTurn.intro (by k_asm) (by k_asm) (by assumption) (fun p hp => hp) ⟨rfl, rfl, ?_⟩
      rw [← g3, spl_at he9]
      show _ = (match nameAt (tabOf e9.d) (S [b]) with | some x => _ | none => _)
      rw [hn9]
    | some x =>
      k_dflt (refine' names_in (by k_asm) (by k_ownIn) (by assumption) (by assumption) true (by rw [hn9]; rfl) ?_)
      k_steps
      unfold Hold
      (with_reducible refine' LCt.Assign_ListComp_T ?Fz5 ?Lz5 ?wz5 ?cz5 ?dz5 ?kz5 ?nz5 ?xz5 ?yz5 ?pz5 ?_ ?sz5); (case Fz5 => k_asm); k_dflt ((case Lz5 => rfl); (case wz5 => with_unfolding_all rfl); (case cz5 => with_unfolding_all rfl); (case dz5 => decide); (case kz5 => rfl); (case nz5 => decide); (case xz5 => rfl); (case yz5 => rfl); (case pz5 => rfl); (case sz5 => exact fun _ => rfl))
      k_steps
      unfold Hold
      k_dflt (refine' Mine.dropW (by k_asm) (by k_asm) (by k_ownIn) (by exact rfl) (by rw [show (tabRefs es).length = es.length from List.length_map _]; exact Nat.le_trans h7 (by decide)) ?_)
      intro _ _ _ _ l1; (try k_lt l1); (try k_sweep)
      k_steps
      rename News _ _ _ _ => N8
      refine LCt.CompSrcT.ledger (by exact rfl) (by k_asm) N8 (.head _) (by rw [List.size_toArray, sizeLine_eq, List.length_drop]; unfold tabRefs; rw [List.length_map]; omega) (fun g8 => ?_)
      refine restT_inv (LtJ (es.drop (i + 1)) _) ?hJS ⟨rfl, rfl⟩ ?turn2 ?fin2
      case hJS => rintro j ys nw ⟨_, rfl⟩; exact .inr ⟨_, .head _, rfl, _, rfl⟩
      case turn2 =>
        rintro j ys nw v I2 oI2 C2 oC2 D2 m₂ h2' tk2 E2 hj ⟨rfl, rfl⟩ hv hO hmx F N off ne
        obtain ⟨e8, he8, rfl⟩ : ∃ e, es[i + 1 + j]? = some e ∧ v = .ref e.D := by
          have hv2 : ((tabRefs es).drop (i + 1))[j]? = some v := by simpa using hv
          rw [List.getElem?_drop] at hv2
          unfold tabRefs at hv2
          rw [List.getElem?_map] at hv2
          cases hq : es[i + 1 + j]? with
          | none => rw [hq] at hv2; cases hv2
          | some e => rw [hq] at hv2; exact ⟨e, rfl, (Option.some.inj hv2).symm⟩
        have hmem8 : e8 ∈ es := List.mem_of_getElem? he8
        obtain ⟨lo8, hd8, h8⟩ := hok _ hmem8
        have ho8 := h2 _ hmem8
        have hfull := tab_full h8
        have hstep := fullTabs_snoc (es.drop (i + 1)) j e8 (by rw [List.getElem?_drop]; exact he8)
        k_steps
        unfold Hold
        by_cases h28 : 2 ≤ e8.d
        · rw [decide_eq_true h28] at hfull
          rw [if_pos h28] at hstep
          k_dflt (refine' Mine.tab_ne (by k_asm) (by k_ownIn) hd8 lo8 (by k_mem) (by assumption) (by assumption) (by ktr_units) hfull ?_)
          k_steps
          exact compEnd_drop (by k_asm) (by k_asm) off ⟨by rw [hstep]; simp [tabRefs], rfl⟩
        · rw [decide_eq_false h28] at hfull
          rw [if_neg h28] at hstep
          k_dflt (refine' Mine.tab_ne (by k_asm) (by k_ownIn) hd8 lo8 (by k_mem) (by assumption) (by assumption) (by ktr_units) hfull ?_)
          k_steps
          exact compEnd_drop (by k_asm) (by k_asm) off ⟨by rw [hstep, List.append_nil], rfl⟩
      case fin2 =>
        rintro ys nw ⟨rfl, rfl⟩ D7 h7' tk7 F7 N7 off7
        rw [List.take_of_length_le (by simp only [List.length_drop, List.size_toArray, tabRefs, List.length_map]; omega)] at N7
        rw [show ∀ xs : List Value, LCg.lst xs = listOf xs.toArray xs.length from fun _ => rfl] at N7
        have hfl := fullTabs_len (es.drop (i + 1))
        have hlen8 : (tabRefs (fullTabs (es.drop (i + 1)))).toArray.size = (fullTabs (es.drop (i + 1))).length := by simp [tabRefs]
        have hle8 : (fullTabs (es.drop (i + 1))).length ≤ 7 := Nat.le_trans (List.length_filter_le _ _) (by rw [List.length_drop]; omega)
        have hxl := tabOf_len h97 hn9
        dsimp only
        k_steps
        unfold Hold
        k_dflt (refine' menu_item (by k_asm) (by k_ownIn) (Int.natCast_nonneg _) hb9 hx9 ?_)
        k_steps
        unfold Hold
        walk_at "last subscriptTail"
        k_dflt (refine' names_item (by k_asm) (by k_ownIn) (by assumption) hn9 ?_)
        intro _
        k_steps
        unfold KTurn
        dsimp only
        k_steps
        refine hret _ _ _ own (by k_asm) (cb_drop (show News _ _ _ (_ :: _ :: _ :: own) by k_asm) fun p9 hp9 => .tail _ (.tail _ (.tail _ hp9))) (by assumption) ⟨⟨_, congrArg (fun z => Value.str z _) ?_⟩, rfl⟩
        rw [spelled_text, ← g3, spl_at he9]
        show _ = S (match nameAt (tabOf e9.d) (S [b]) with | some x => _ | none => _)
        rw [hn9, hfl, List.map_drop]
  case done =>
    intro h tk m' htk9 ⟨g1, g2, g3⟩ F N
    replace F := Fr_ch2 "sign" "names" F g1 g2
    k_steps
    refine hret _ _ _ own (by k_asm) (by k_asm) (by assumption) ⟨⟨t, ?_⟩, rfl⟩
    rw [← g3, List.drop_eq_nil_of_le (by simp)]
    rfl
end Mine
end SSp2
section STp2
open PySem PySem.W PyProof.Rows PySem.Calls
set_option Elab.async false
set_option maxRecDepth 100000
set_option maxHeartbeats 8000000
set_option pp.maxSteps 400
set_option autoImplicit false
namespace Mine
/-- a code point that ends no line -/
abbrev Cp (c : Nat) : Prop := c < 1114112 ∧ c ≠ 10 ∧ c ≠ 13
/-- at most n signs, each a code point -/
structure Gd (n : Nat) (l : List Nat) : Prop where
  (len : l.length ≤ n)
  (ok : ∀ c ∈ l, Cp c)
theorem Gd.app {a b : Nat} {x y : List Nat} (h : Gd a x) (k : Gd b y) : Gd (a + b) (x ++ y) :=
  ⟨by rw [List.length_append]; exact Nat.add_le_add h.len k.len, fun c hc => (List.mem_append.mp hc).elim (h.ok c) (k.ok c)⟩
theorem Gd.le {a b : Nat} {x : List Nat} (h : Gd a x) (k : a ≤ b) : Gd b x := ⟨Nat.le_trans h.len k, h.ok⟩
theorem gd_rep (n c : Nat) (hc : Cp c) : Gd n (List.replicate n c) :=
  ⟨by rw [List.length_replicate]; exact Nat.le_refl _, fun a ha => by rw [(List.mem_replicate.mp ha).2]; exact hc⟩
theorem half_le (m n : Nat) : half m n ≤ m := Nat.div_le_self _ _
theorem tab_gd {d : Nat} (hd : d < 7) {c : PySem.Str} {x : PySem.Str} (h : nameAt (tabOf d) c = some x) : Gd 10 x.cps.toList := by
  have key : ∀ d : Nat, d < 7 → ∀ p ∈ tabOf d, p.2.cps.toList.length ≤ 10 ∧ ∀ a ∈ p.2.cps.toList, Cp a := by decide +kernel
  unfold nameAt at h
  cases hq : (tabOf d).find? (fun p => p.1 = c) with
  | none => rw [hq] at h; cases h
  | some p => rw [hq] at h; cases h; exact ⟨(key d hd p (List.mem_of_find?_eq_some hq)).1, (key d hd p (List.mem_of_find?_eq_some hq)).2⟩
theorem gd_amp : ∀ n : Nat, Gd (4 * n) (ampN n)
  | 0 => ⟨Nat.le_refl _, fun _ h => nomatch h⟩
  | n + 1 => by
    have h4 : Gd 4 [97, 109, 112, 59] := ⟨Nat.le_refl _, by decide⟩
    exact (h4.app (gd_amp n)).le (by omega)
theorem gd_spl : ∀ (ρ : List Nat), (∀ e ∈ ρ, e < 7) → ∀ c : Nat, Cp c → Gd (4 * ρ.length + 11) (spl ρ c)
  | [], _, c, hc => ⟨by show 1 ≤ _; omega, fun a ha => by rw [List.mem_singleton.mp ha]; exact hc⟩
  | d :: r, h, c, hc => by
    unfold spl
    cases hn : nameAt (tabOf d) (S [c]) with
    | none =>
      exact (gd_spl r (fun e he => h e (.tail _ he)) c hc).le (by rw [List.length_cons]; omega)
    | some x =>
      have h1 := gd_amp (r.countP (2 ≤ ·))
      have h2 := tab_gd (h d (.head _)) hn
      have h3 : r.countP (2 ≤ ·) ≤ r.length := List.countP_le_length
      have h4 : Gd 1 [38] := ⟨Nat.le_refl _, fun a ha => by rw [List.mem_singleton.mp ha]; decide⟩
      exact (h4.app (h1.app h2)).le (by rw [List.length_cons]; omega)
/-- a part is small -/
structure PtLe (p : Pt) : Prop where
  (blank : Cp p.1)
  (marks : p.2.1 < 8)
  (dots : p.2.2.1 ≤ 2)
  (hidden : p.2.2.2.1 < 4)
  (sign : Cp p.2.2.2.2)
section
variable {ρ : List Nat} (hl : ρ.length ≤ 7) (hr : ∀ e ∈ ρ, e < 7)
include hl hr
theorem gd_seg (i : Nat) (p : Pt) (hp : PtLe p) : Gd 51 (seg ρ i p) := by
  have h1 := gd_rep (p.2.2.1 + (ρ.drop i).count 1) 46 (by decide)
  have h2 := gd_rep (half p.2.2.2.1 (ρ.count 0)) 92 (by decide)
  have h3 := gd_spl ρ hr _ hp.sign
  have h4 : (ρ.drop i).count 1 ≤ (ρ.drop i).length := List.count_le_length
  rw [List.length_drop] at h4
  have h5 := half_le p.2.2.2.1 (ρ.count 0)
  have h6 := hp.dots
  have h7 := hp.hidden
  exact ((h1.app h2).app h3).le (by omega)
omit hl hr in
theorem gd_bsl (p : Pt) (hp : PtLe p) : Gd 7 (bsl (half p.2.1 (ρ.count 0))) :=
  (gd_rep _ 92 (by decide)).le (by have := half_le p.2.1 (ρ.count 0); have := hp.marks; omega)
theorem gd_blank (p : Pt) (hp : PtLe p) : Gd 46 (bsl (half p.2.1 (ρ.count 0)) ++ spl ρ p.1) :=
  ((gd_bsl (ρ := ρ) p hp).app (gd_spl ρ hr _ hp.blank)).le (by omega)
theorem gd_tail : ∀ ps : List Pt, (∀ p ∈ ps, PtLe p) → Gd (100 * ps.length) (tailW ρ ps).1 ∧ ∀ x ∈ (tailW ρ ps).2, Gd (100 * ps.length) x
  | [], _ => ⟨⟨Nat.le_refl _, fun _ h => nomatch h⟩, fun _ h => nomatch h⟩
  | p :: ps, h => by
    have ih := gd_tail ps fun q hq => h q (.tail _ hq)
    have hp := h p (.head _)
    unfold tailW
    rw [List.length_cons]
    cases cut ρ p.1 p.2.1 with
    | some i =>
      refine ⟨(gd_bsl (ρ := ρ) p hp).le (by omega), fun x hx => ?_⟩
      rcases List.mem_cons.mp hx with rfl | hx
      · exact ((gd_seg hl hr i p hp).app ih.1).le (by omega)
      · exact (ih.2 x hx).le (by omega)
    | none =>
      exact ⟨(((gd_blank hl hr p hp).app (gd_seg hl hr _ p hp)).app ih.1).le (by omega), fun x hx => (ih.2 x hx).le (by omega)⟩
theorem gd_words : ∀ ps : List Pt, (∀ p ∈ ps, PtLe p) → ∀ x ∈ wordsW ρ ps, Gd (100 * ps.length) x
  | [], _, _, h => nomatch h
  | p :: ps, h, x, hx => by
    have ih := gd_tail hl hr ps fun q hq => h q (.tail _ hq)
    rw [List.length_cons]
    rcases List.mem_cons.mp hx with rfl | hx
    · exact ((gd_seg hl hr 0 p (h p (.head _))).app ih.1).le (by omega)
    · exact (ih.2 x hx).le (by omega)
end
/-- the words told of some parts -/
def wordsP (run : List Nat) (l : List Pt) : List (List Nat) := if l = [] then [] else wordsW run l
theorem wordsP_one (run : List Nat) (p : Pt) : wordsP run ([] ++ [p]) = [seg run 0 p] := by
  show (seg run 0 p ++ []) :: [] = _
  rw [List.append_nil]
theorem wordsP_snoc (run : List Nat) (p : Pt) {l : List Pt} (h : l ≠ []) : wordsP run (l ++ [p]) = addP run p (wordsP run l) := by
  cases l with
  | nil => exact absurd rfl h
  | cons q ps =>
    unfold wordsP
    rw [if_neg (List.cons_ne_nil _ _), if_neg (by simp)]
    exact words_snoc run p q ps
theorem wordsP_last (run : List Nat) {l : List Pt} (h : l ≠ []) : ∃ W w, wordsP run l = W ++ [w] := by
  cases l with
  | nil => exact absurd rfl h
  | cons q ps =>
    have : wordsP run (q :: ps) ≠ [] := by unfold wordsP; rw [if_neg (List.cons_ne_nil _ _)]; exact List.cons_ne_nil _ _
    exact ⟨_, _, (List.dropLast_concat_getLast this).symm⟩
theorem onLast_snoc (f : List Nat → List Nat) (w : List Nat) : ∀ W : List (List Nat), onLast f (W ++ [w]) = W ++ [f w]
  | [] => rfl
  | [a] => rfl
  | a :: b :: W => by
    show a :: onLast f (b :: W ++ [w]) = _
    rw [onLast_snoc f w (b :: W)]; rfl
theorem addP_cut {run : List Nat} {p : Pt} {i : Nat} (h : cut run p.1 p.2.1 = some i) (W : List (List Nat)) (w : List Nat) : addP run p (W ++ [w]) = W ++ [w ++ bsl (half p.2.1 (run.count 0))] ++ [seg run i p] := by
  unfold addP
  rw [h]
  dsimp only
  rw [onLast_snoc]
theorem addP_on {run : List Nat} {p : Pt} (h : cut run p.1 p.2.1 = none) (W : List (List Nat)) (w : List Nat) : addP run p (W ++ [w]) = W ++ [w ++ (bsl (half p.2.1 (run.count 0)) ++ spl run p.1) ++ seg run run.length p] := by
  unfold addP
  rw [h]
  dsimp only
  rw [onLast_snoc, List.append_assoc w]
/-- the readings among the first deeds -/
def rdN (run : List Nat) (j : Nat) : List Nat := (List.range j).filter fun k => run.getD k 1 == 0
theorem rdN_succ {run : List Nat} {j d : Nat} (h : run[j]? = some d) : rdN run (j + 1) = rdN run j ++ (if d = 0 then [j] else []) := by
  have e : run.getD j 1 = d := by rw [List.getD_eq_getElem?_getD, h]; rfl
  unfold rdN
  rw [List.range_succ, List.filter_append]
  congr 1
  show List.filter (fun k => run.getD k 1 == 0) [j] = _
  rw [List.filter_cons, e]
  by_cases hd : d = 0
  · rw [if_pos hd, hd]; rfl
  · rw [if_neg hd, if_neg (by simpa using hd)]; rfl
theorem rdN_rdL : ∀ run : List Nat, rdN run run.length = rdL run
  | [] => rfl
  | d :: r => by
    have ih := rdN_rdL r
    unfold rdN at ih ⊢
    rw [List.length_cons, List.range_succ_eq_map, List.filter_cons, List.filter_map]
    unfold rdL
    rw [← ih]
    have e : ((fun k => (d :: r).getD k 1 == 0) ∘ Nat.succ) = fun k => r.getD k 1 == 0 := by
      funext k; rfl
    rw [e]
    by_cases hd : d = 0
    · rw [if_pos hd, if_pos (by rw [hd]; rfl)]
    · rw [if_neg hd, if_neg (by show ¬ (d == 0) = true; simpa using hd)]
/-- the deeds that hide a blank -/
def hdN (run : List Nat) (b j : Nat) : List Nat := (List.range j).filter fun k => (nameAt (tabOf (run.getD k 0)) (S [b])).isSome
theorem hdN_succ {run : List Nat} {b j d : Nat} (h : run[j]? = some d) : hdN run b (j + 1) = hdN run b j ++ (if (nameAt (tabOf d) (S [b])).isSome = true then [j] else []) := by
  have e : run.getD j 0 = d := by rw [List.getD_eq_getElem?_getD, h]; rfl
  unfold hdN
  rw [List.range_succ, List.filter_append]
  congr 1
  show List.filter (fun k => (nameAt (tabOf (run.getD k 0)) (S [b])).isSome) [j] = _
  rw [List.filter_cons, e]
  rfl
theorem fh_le (b : Nat) : ∀ (run : List Nat) (j d : Nat), run[j]? = some d → (nameAt (tabOf d) (S [b])).isSome = true → fh b run ≤ j
  | [], _, _, h, _ => by cases h
  | e :: r, j, d, h, hs => by
    unfold fh
    by_cases he : (nameAt (tabOf e) (S [b])).isSome = true
    · rw [if_pos he]; exact Nat.zero_le _
    · rw [if_neg he]
      cases j with
      | zero => cases h; exact absurd hs he
      | succ j => exact Nat.succ_le_succ (fh_le b r j d h hs)
theorem fh_at (b : Nat) : ∀ run : List Nat, fh b run = run.length ∨ ∃ d, run[fh b run]? = some d ∧ (nameAt (tabOf d) (S [b])).isSome = true
  | [] => .inl rfl
  | e :: r => by
    unfold fh
    by_cases he : (nameAt (tabOf e) (S [b])).isSome = true
    · rw [if_pos he]; exact .inr ⟨e, rfl, he⟩
    · rw [if_neg he]
      rcases fh_at b r with h | ⟨d, h1, h2⟩
      · exact .inl (by rw [h]; rfl)
      · exact .inr ⟨d, h1, h2⟩
theorem mem_hdN {run : List Nat} {b k : Nat} : k ∈ hdN run b run.length ↔ ∃ d, run[k]? = some d ∧ (nameAt (tabOf d) (S [b])).isSome = true := by
  unfold hdN
  rw [List.mem_filter, List.mem_range]
  constructor
  · rintro ⟨h1, h2⟩
    refine ⟨run[k], List.getElem?_eq_getElem h1, ?_⟩
    rw [List.getD_eq_getElem?_getD, List.getElem?_eq_getElem h1] at h2
    exact h2
  · rintro ⟨d, h1, h2⟩
    refine ⟨?_, ?_⟩
    · rcases Nat.lt_or_ge k run.length with h | h
      · exact h
      · rw [List.getElem?_eq_none h] at h1; cases h1
    · rw [List.getD_eq_getElem?_getD, h1]; exact h2
/-- the least of the hiding deeds and the run's end -/
theorem min_fh {run : List Nat} {b : Nat} {M : Int} (h1 : M ∈ ((hdN run b run.length).map fun k : Nat => (k : Int)) ++ [(run.length : Int)]) (h2 : ∀ a ∈ ((hdN run b run.length).map fun k : Nat => (k : Int)) ++ [(run.length : Int)], M ≤ a) : M = (fh b run : Int) := by
  have hle : M ≤ (fh b run : Int) := by
    refine h2 _ ?_
    rcases fh_at b run with h | h
    · rw [h]; exact List.mem_append_right _ (.head _)
    · exact List.mem_append_left _ (List.mem_map.mpr ⟨_, mem_hdN.mpr h, rfl⟩)
  have hge : (fh b run : Int) ≤ M := by
    rcases List.mem_append.mp h1 with h | h
    · obtain ⟨k, hk, rfl⟩ := List.mem_map.mp h
      obtain ⟨d, h3, h4⟩ := mem_hdN.mp hk
      exact Int.ofNat_le.mpr (fh_le b run k d h3 h4)
    · rw [List.mem_singleton.mp h]
      rcases fh_at b run with h | ⟨d, h3, _⟩
      · rw [h]; exact Int.le_refl _
      · refine Int.ofNat_le.mpr (Nat.le_of_lt ?_)
        rcases Nat.lt_or_ge (fh b run) run.length with h | h
        · exact h
        · rw [List.getElem?_eq_none h] at h3; cases h3
  omega
theorem cut_yes {run : List Nat} {b m i : Nat} (hm : m < 8) (h1 : (rdN run run.length)[ones1 3 m]? = some i) (h2 : i < fh b run) : cut run b m = some i := by
  rw [cut_law b run 3 m hm, ← rdN_rdL, h1]
  exact if_pos h2
theorem cut_no {run : List Nat} {b m : Nat} (hm : m < 8) (h : ∀ i, (rdN run run.length)[ones1 3 m]? = some i → ¬ i < fh b run) : cut run b m = none := by
  rw [cut_law b run 3 m hm, ← rdN_rdL]
  cases hq : (rdN run run.length)[ones1 3 m]? with
  | none => rfl
  | some i => exact if_neg (h i hq)
theorem rdN_len (run : List Nat) : (rdN run run.length).length = run.count 0 := by rw [rdN_rdL, rdL_len]
/-- the words after a part: the told texts' last one is still open -/
structure TdPre (run : List Nat) (l : List Pt) (p : Pt) (W : List (List Nat)) (pre : List Nat) (a : Nat) : Prop where
  (le : a ≤ 7)
  (len : pre.length ≤ 100 * l.length + 46)
  (eq : wordsP run (l ++ [p]) = W ++ [pre ++ seg run a p])
theorem tdPre_first (run : List Nat) (p : Pt) : TdPre run [] p [] [] 0 := ⟨by decide, by simp, by rw [wordsP_one]; rfl⟩
theorem tdPre_cut {run : List Nat} {l : List Pt} {p : Pt} {i : Nat} (hl : l ≠ []) {W : List (List Nat)} {w : List Nat} (e : wordsP run l = W ++ [w]) (h : cut run p.1 p.2.1 = some i) (hi : i ≤ 7) : TdPre run l p (W ++ [w ++ bsl (half p.2.1 (run.count 0))]) [] i :=
  ⟨hi, by simp, by rw [wordsP_snoc run p hl, e, addP_cut h]; rfl⟩
theorem tdPre_on {run : List Nat} {l : List Pt} {p : Pt} (hl : l ≠ []) {W : List (List Nat)} {w : List Nat} (e : wordsP run l = W ++ [w]) (h : cut run p.1 p.2.1 = none) (h7 : run.length = 7) (hr : ∀ e ∈ run, e < 7) (hp : PtLe p) (hw : w.length ≤ 100 * l.length) : TdPre run l p W (w ++ (bsl (half p.2.1 (run.count 0)) ++ spl run p.1)) 7 := by
  refine ⟨Nat.le_refl _, ?_, ?_⟩
  · rw [List.length_append]
    exact Nat.add_le_add hw (gd_blank (by omega) hr p hp).len
  · rw [wordsP_snoc run p hl, e, addP_on h, h7]
theorem mul_bs (D : Nat) : Txt.mul (PySem.Str.ofString "\\") (D : Int) = S (List.replicate D 92) := by
  have e : PySem.Str.ofString "\\" = S [92] := by decide
  rw [e, mulS [92] D _ rfl]
  congr 1
  induction D with
  | zero => rfl
  | succ n ih => rw [List.replicate_succ, List.flatten_cons, ih]; rfl
theorem bsl_text (m n : Nat) : Txt.mul (PySem.Str.ofString "\\") ((half m n : Nat) : Int) = S (bsl (half m n)) := mul_bs _
theorem dts_text (k : Nat) : Txt.mul (PySem.Str.ofString ".") ((k : Nat) : Int) = S (dts k) := mul_dot k
end Mine
end STp2
section SLas2
open PySem PySem.W PyProof.Rows PySem.Calls
set_option Elab.async false
set_option maxRecDepth 100000
set_option maxHeartbeats 8000000
set_option pp.maxSteps 400
set_option autoImplicit false
namespace Mine
section
variable {prog : Program} {w : World} {A : Around} {E : Value → Shared → Prop} {s : Shared} {h₀ : Heap} {L D : Addr} {m : PySem.Str → Option Value} {news news' : List (Addr × Obj)} {ys : List Value} {v v2 : Value} {c : Nat} {t : Tok}
/-- l[-1] -/
theorem lastGet {Q : Value → Shared → Prop} (N : News h₀ L s.heap news) (hm : (D, listOf (ys ++ [v]).toArray c) ∈ news) (h : Q v s) : wpAny (model prog w) A (getItem (.ref D) (.int (-1) t)) Q E s := by
  have hs : (ys ++ [v]).toArray.size = ys.length + 1 := by simp
  refine wpAny_getItem_list_neg ⟨_, (N _ hm).1, rfl, _, rfl⟩ (by decide) (by rw [hs]; omega) (by decide) ?_ h
  have e : (-1 + (((ys ++ [v]).toArray.size : Nat) : Int)).toNat = ys.length := by rw [hs]; omega
  rw [e]
  simp
/-- l[-1] = v -/
theorem lastSet {Q : Unit → Shared → Prop} (F : Fr h₀ L s.heap m) (N : News h₀ L s.heap news) (U : Upd D (listOf (ys ++ [v]).toArray c) (listOf (ys ++ [v2]).toArray c) news news')
    (h : ∀ h', Fr h₀ L h' m → News h₀ L h' news' → Q () { s with heap := h' }) : wpAny (model prog w) A (setItem (.ref D) (.int (-1) t) v2) Q E s := by
  obtain ⟨pre, post, rfl, rfl, a, b⟩ := U.split
  have z := N (D, listOf (ys ++ [v]).toArray c) (List.mem_append.mpr (.inr (.head _)))
  have hs : (ys ++ [v]).toArray.size = ys.length + 1 := by simp
  have e : (-1 + (((ys ++ [v]).toArray.size : Nat) : Int)).toNat = ys.length := by rw [hs]; omega
  refine ki_setBack z.1 (by decide) (by rw [hs]; omega) (by decide) (h _ (F.change (Heap.SameBut.update ..) z.2.1 z.2.2) (ki_turn _ N a b ?_ ?_))
  · rw [e]
    simp
  · simp
theorem appStr {vs : List Value} {x : Value} {n : Nat} {Q : Value → Shared → Prop} (F : Fr h₀ L s.heap m) (N : News h₀ L s.heap news) (U : Upd D (listOf vs.toArray n) (listOf (vs ++ [x]).toArray (n + 1)) news news') (hz : vs.length ≤ 1000)
    (h : ∀ h', Fr h₀ L h' m → News h₀ L h' news' → Q .none { s with heap := h' }) : wpAny (model prog w) A (call (.builtin "list.append") [.ref D, x]) Q E s := by
  rw [← List.push_toArray] at U
  exact append_K F N U h (by rw [List.size_toArray, sizeLine_eq]; omega)
/-- told == [] -/
theorem eq_some {l b : Addr} {its its2 : Array Value} {n n2 : Nat} {Q : Value → Shared → Prop} (N : News h₀ L s.heap news) (h1 : (l, listOf its n) ∈ news) (h2 : (b, listOf its2 n2) ∈ news) (hne : (its.size != its2.size) = true) (hu : A.units < cLine) (h : Q (.bool false) s) :
    wpAny (model prog w) A (compareOp .Eq (.ref l) (.ref b)) Q E s :=
  PySem.SeqAt.eq_list_lengthsAt ⟨_, (N _ h1).1, rfl, _, rfl⟩ ⟨_, (N _ h2).1, rfl, _, rfl⟩ hne hu h
theorem eq_none {l b : Addr} {n n2 : Nat} {Q : Value → Shared → Prop} (N : News h₀ L s.heap news) (h1 : (l, listOf (strValues []).toArray n) ∈ news) (h2 : (b, listOf #[] n2) ∈ news) (hu : A.units < cLine) (h : Q (.bool true) s) :
    wpAny (model prog w) A (compareOp .Eq (.ref l) (.ref b)) Q E s :=
  PySem.SeqAt.eq_listAt (items := #[]) (items2 := #[]) (e := fun _ => true) ⟨_, (N _ h1).1, rfl, _, rfl⟩ ⟨_, (N _ h2).1, rfl, _, rfl⟩ rfl hu (fun _ h1 _ => absurd h1 (Nat.not_lt_zero _)) h
theorem ltT {a b : Int} {t u : Tok} {Q : Value → Shared → Prop} (h : a < b) (k : Q (.bool true) s) : wpAny (model prog w) A (compareOp .Lt (.int a t) (.int b u)) Q E s := lt_int (by rw [decide_eq_true h]; exact k)
theorem ltF {a b : Int} {t u : Tok} {Q : Value → Shared → Prop} (h : ¬ a < b) (k : Q (.bool false) s) : wpAny (model prog w) A (compareOp .Lt (.int a t) (.int b u)) Q E s := lt_int (by rw [decide_eq_false h]; exact k)
/-- one statement, then the rest, told apart -/
theorem seqI {M : Model} {env : Env} {Mid : Shared → Prop} {st : Stmt} {rest : List Stmt} {Q : Flow → Shared → Prop} (h1 : wpAny M A (exec st env) (fun f s' => f = .next ∧ Mid s') E s) (h2 : ∀ s', Mid s' → wpAny M A (execs rest env) Q E s') : wpAny M A (execs (st :: rest) env) Q E s :=
  wpAny_execs_cons (wpAny_mono h1 (fun f s' hf => by obtain ⟨rfl, h⟩ := hf; exact h2 s' h) fun _ _ e => e)
end
end Mine
end SLas2
section SLs2
open PySem PySem.W PyProof.Rows PySem.Calls
set_option Elab.async false
set_option maxRecDepth 100000
set_option maxHeartbeats 8000000
set_option pp.maxSteps 400
set_option autoImplicit false
namespace Mine
/-- a continuation is named, so that the walk does not carry it along -/
theorem absE {α : Type} {M : Model} {A : Around} {t : Sem α} {Q : α → Shared → Prop} {E : Value → Shared → Prop} {s : Shared} (h : ∀ (Q' : α → Shared → Prop) (E' : Value → Shared → Prop), (∀ a s', Q a s' → Q' a s') → wpAny M A t Q' E' s) : wpAny M A t Q E s := h Q E fun _ _ h => h
theorem absF {α β : Type} {M : Model} {A : Around} {t : Sem α} {t2 : Sem β} {Q : β → Shared → Prop} {E : Value → Shared → Prop} {s : Shared} (h : ∀ (Q' : β → Shared → Prop) (E' : Value → Shared → Prop), (∀ a s', Q a s' → Q' a s') → wpAny M A t (fun _ s₃ => wpAny M A t2 Q' E' s₃) E' s) : wpAny M A t (fun _ s₃ => wpAny M A t2 Q E s₃) E s := h Q E fun _ _ h => h
theorem absT {β : Type} {M : Model} {A : Around} {t : Sem Bool} {t2 : Sem β} {Q : β → Shared → Prop} {R : Shared → Prop} {E : Value → Shared → Prop} {s : Shared} (h : ∀ (Q' : β → Shared → Prop) (R' : Shared → Prop) (E' : Value → Shared → Prop), (∀ a s', Q a s' → Q' a s') → (∀ s', R s' → R' s') → wpAny M A t (fun ok s' => if ok = true then wpAny M A t2 Q' E' s' else R' s') E' s) : wpAny M A t (fun ok s' => if ok = true then wpAny M A t2 Q E s' else R s') E s := h Q R E (fun _ _ h => h) fun _ h => h
theorem memAll_tail {α β : Type} {es : List α} {f : α → β} {x : β} {l : List β} (h : ∀ e ∈ es, f e ∈ l) : ∀ e ∈ es, f e ∈ x :: l := fun e he => .tail _ (h e he)
theorem wordsP_gd {run : List Nat} (hl : run.length ≤ 7) (hr : ∀ e ∈ run, e < 7) {l : List Pt} (h : ∀ p ∈ l, PtLe p) : ∀ x ∈ wordsP run l, Gd (100 * l.length) x := by
  intro x hx
  unfold wordsP at hx
  by_cases he : l = []
  · rw [if_pos he] at hx; cases hx
  · rw [if_neg he] at hx; exact gd_words hl hr l h x hx
theorem ones1_le : ∀ n m : Nat, ones1 n m ≤ n
  | 0, _ => Nat.le_refl _
  | n + 1, m => by
    unfold ones1
    have := ones1_le n (m / 2)
    split <;> omega
theorem tailW_len (ρ : List Nat) : ∀ ps : List Pt, (tailW ρ ps).2.length ≤ ps.length
  | [] => Nat.le_refl _
  | p :: ps => by
    have ih := tailW_len ρ ps
    unfold tailW
    rw [List.length_cons]
    cases cut ρ p.1 p.2.1 with
    | some i => exact Nat.succ_le_succ ih
    | none => exact Nat.le_succ_of_le ih
theorem wordsP_len (run : List Nat) : ∀ l : List Pt, (wordsP run l).length ≤ l.length
  | [] => Nat.le_refl _
  | _ :: ps => Nat.succ_le_succ (tailW_len run ps)
/-- how long the pieces of a part are -/
structure TdLen (run : List Nat) (p : Pt) : Prop where
  (m8 : p.2.1 < 8)
  (h8 : p.2.2.2.1 < 8)
  (s1 : (bsl (half p.2.1 (run.count 0))).length ≤ 1000)
  (s2 : (spl run p.1).length ≤ 1000)
  (s3 : (bsl (half p.2.1 (run.count 0)) ++ spl run p.1).length ≤ 1000)
  (s4 : (bsl (half p.2.2.2.1 (run.count 0))).length ≤ 1000)
  (s5 : (spl run p.2.2.2.2).length ≤ 1000)
  (s6 : (bsl (half p.2.2.2.1 (run.count 0)) ++ spl run p.2.2.2.2).length ≤ 1000)
theorem td_len {run : List Nat} {p : Pt} (h7 : run.length = 7) (hr : ∀ e ∈ run, e < 7) (hp : PtLe p) : TdLen run p := by
  have a1 := (gd_spl run hr _ hp.blank).len
  have a2 := (gd_spl run hr _ hp.sign).len
  have b1 := half_le p.2.1 (run.count 0)
  have b2 := half_le p.2.2.2.1 (run.count 0)
  have c1 := hp.marks
  have c2 := hp.hidden
  have d1 : (bsl (half p.2.1 (run.count 0))).length ≤ 7 := by unfold bsl; rw [List.length_replicate]; omega
  have d2 : (bsl (half p.2.2.2.1 (run.count 0))).length ≤ 7 := by unfold bsl; rw [List.length_replicate]; omega
  exact ⟨c1, by omega, by omega, by omega, by rw [List.length_append]; omega, by omega, by omega, by rw [List.length_append]; omega⟩
/-- the same, of the dots -/
structure TdDot (run : List Nat) (p : Pt) (pr : List Nat) (a : Nat) : Prop where
  (k : p.2.2.1 + (run.drop a).count 1 ≤ 100)
  (s1 : pr.length ≤ 1000)
  (s2 : (dts (p.2.2.1 + (run.drop a).count 1)).length ≤ 1000)
  (s3 : (pr ++ dts (p.2.2.1 + (run.drop a).count 1)).length ≤ 1000)
theorem td_dot {run : List Nat} {p : Pt} {l : List Pt} {W : List (List Nat)} {pr : List Nat} {a : Nat} (h7 : run.length = 7) (hp : PtLe p) (hl : l.length ≤ 5) (h : TdPre run l p W pr a) : TdDot run p pr a := by
  have h1 := h.len
  have h2 := hp.dots
  have h3 : (run.drop a).count 1 ≤ 7 := Nat.le_trans List.count_le_length (by rw [List.length_drop]; omega)
  have h4 : (dts (p.2.2.1 + (run.drop a).count 1)).length ≤ 9 := by unfold dts; rw [List.length_replicate]; omega
  exact ⟨by omega, by omega, by omega, by rw [List.length_append]; omega⟩
theorem hdN_len (run : List Nat) (b j : Nat) : (hdN run b j).length ≤ j := Nat.le_trans (List.length_filter_le _ _) (by rw [List.length_range]; exact Nat.le_refl _)
section
variable {prog : Program} {w : World} {A : Around} {E : Value → Shared → Prop} {s : Shared} {h₀ : Heap} {L D : Addr} {m : PySem.Str → Option Value} {news news' : List (Addr × Obj)} {t u : Tok} {Q : Value → Shared → Prop}
theorem lenC {its : Array Value} {c n : Nat} (N : News h₀ L s.heap news) (hm : (D, listOf its c) ∈ news) (hs : its.size = n) (hn : n ≤ 7) (h : Q (.int (n : Nat) (s.toks + 1)) { s with toks := s.toks + 1 + 1 }) : wpAny (model prog w) A (call (.builtin "len") [.ref D]) Q E s :=
  KM.len_K N hm hs (by omega) h
theorem menuN {value slice : PySem.Expr} {l : Addr} {vs : List Value} {c k : Nat} {v : Value} (N : News h₀ L s.heap news) (hm : (l, listOf vs.toArray c) ∈ news) (hk : k ≤ 7) (hx : vs[((k : Nat) : Int).toNat]? = some v) (h : Q v s)
    (hs : subscripted slice false (.ref l) (.int ((k : Nat) : Int) u) = operate [.ref l, .int ((k : Nat) : Int) u] (getItem (.ref l) (.int ((k : Nat) : Int) u)) := by with_unfolding_all rfl) (hg : ∀ r, letTemporaryGo value (.ref l) r = pure () := by intro _; with_unfolding_all rfl) :
    wpAny (model prog w) A (subscriptTail value slice (.ref l) (.int ((k : Nat) : Int) u)) Q E s :=
  menu_item N hm (Int.natCast_nonneg _) (by omega) hx h hs hg
theorem powC {n : Nat} (hn : n ≤ 7) (h : Q (.int ((2 ^ n : Nat) : Int) s.toks) { s with toks := s.toks + 1 }) : wpAny (model prog w) A (binaryOp .Pow (.int 2 t) (.int ((n : Nat) : Int) u)) Q E s :=
  pow_int_small (Int.natCast_nonneg _) (by omega) (by decide) (by rw [Int.toNat_natCast, show (2 : Int) ^ n = ((2 ^ n : Nat) : Int) by simp]; exact h)
theorem halfC {k n : Nat} (hn : n ≤ 7) (h : Q (.int ((half k n : Nat) : Int) s.toks) { s with toks := s.toks + 1 }) : wpAny (model prog w) A (binaryOp .FloorDiv (.int ((k : Nat) : Int) t) (.int ((2 ^ n : Nat) : Int) u)) Q E s := by
  have h1 : 2 ^ n ≤ 2 ^ 7 := Nat.pow_le_pow_right (by decide) hn
  have h0 : 0 < 2 ^ n := Nat.pow_pos (by decide)
  refine floordiv_int (by omega) ?_ (Or.inl (PyProof.noPylong_small (by rw [Int.natAbs_natCast]; omega)))
  rw [show ((k : Nat) : Int).fdiv ((2 ^ n : Nat) : Int) = ((half k n : Nat) : Int) from (Int.ofNat_fdiv k (2 ^ n)).symm]
  exact h
theorem mulT {x : PySem.Str} {k : Nat} {y : List Nat} (ht : 1 ≤ s.toks) (hx : x.length ≤ 16) (hk : k ≤ 100) (e : Txt.mul x ((k : Nat) : Int) = S y) (h : ∀ t' tk, 1 ≤ tk → Q (.str (S y) t') { s with toks := tk }) : wpAny (model prog w) A (binaryOp .Mult (.str x t) (.int ((k : Nat) : Int) u)) Q E s :=
  wpAny_with_toks (n := 1) ht (SB.mul (mulOk_of 16 1048576 hx (by omega) (by omega) (by decide) (by decide)) fun t' tk htk => by rw [e]; exact h t' tk htk)
theorem mulBs {a n : Nat} (ht : 1 ≤ s.toks) (hk : a ≤ 100) (h : ∀ t' tk, 1 ≤ tk → Q (.str (S (bsl (half a n))) t') { s with toks := tk }) : wpAny (model prog w) A (binaryOp .Mult (.str (PySem.Str.ofString "\\") t) (.int ((half a n : Nat) : Int) u)) Q E s :=
  mulT ht (by decide) (Nat.le_trans (half_le _ _) hk) (bsl_text _ _) h
theorem mulDt {k : Nat} (ht : 1 ≤ s.toks) (hk : k ≤ 100) (h : ∀ t' tk, 1 ≤ tk → Q (.str (S (dts k)) t') { s with toks := tk }) : wpAny (model prog w) A (binaryOp .Mult (.str (PySem.Str.ofString ".") t) (.int ((k : Nat) : Int) u)) Q E s :=
  mulT ht (by decide) hk (dts_text _) h
theorem addSt {x y : List Nat} (ht : 1 ≤ s.toks) (hz : x.length + y.length ≤ 1000000) (h : ∀ t' tk, 1 ≤ tk → Q (.str (S (x ++ y)) t') { s with toks := tk }) : wpAny (model prog w) A (binaryOp .Add (.str (S x) t) (.str (S y) u)) Q E s :=
  wpAny_with_toks (n := 1) ht (PyProof.Rows.add_str (fun t' tk htk => by rw [S_append]; exact h t' tk htk) (by rw [S_len, S_len, sizeLine_eq]; omega))
theorem mulBm {a n : Nat} (ht : 1 ≤ s.toks) (hk : a < 8) (h : ∀ t' tk, 1 ≤ tk → Q (.str (S (bsl (half a n))) t') { s with toks := tk }) : wpAny (model prog w) A (binaryOp .Mult (.str (PySem.Str.ofString "\\") t) (.int ((half a n : Nat) : Int) u)) Q E s := mulBs ht (by omega) h
theorem addM {x y : List Nat} (ht : 1 ≤ s.toks) (hx : x.length ≤ 1000) (hy : y.length ≤ 1000) (h : ∀ t' tk, 1 ≤ tk → Q (.str (S (x ++ y)) t') { s with toks := tk }) : wpAny (model prog w) A (binaryOp .Add (.str (S x) t) (.str (S y) u)) Q E s := addSt ht (by omega) h
theorem iaddM {x y : List Nat} (ht : 1 ≤ s.toks) (hx : x.length ≤ 1000) (hy : y.length ≤ 1000) (h : ∀ t' tk, 1 ≤ tk → Q (.str (S (x ++ y)) t') { s with toks := tk }) : wpAny (model prog w) A (inplaceOp .Add (.str (S x) t) (.str (S y) u)) Q E s := iaddS ht (by omega) h
theorem appS2 {xs : List (PySem.Str × Tok)} {y x : Value} {n : Nat} (F : Fr h₀ L s.heap m) (N : News h₀ L s.heap news) (U : Upd D (listOf (strValues xs ++ [y]).toArray n) (listOf (strValues xs ++ [y] ++ [x]).toArray (n + 1)) news news') (hz : xs.length ≤ 5)
    (h : ∀ h', Fr h₀ L h' m → News h₀ L h' news' → Q .none { s with heap := h' }) : wpAny (model prog w) A (call (.builtin "list.append") [.ref D, x]) Q E s := appStr F N U (by simp [strValues]; omega) h
theorem appS0 {x : Value} {n : Nat} (F : Fr h₀ L s.heap m) (N : News h₀ L s.heap news) (U : Upd D (listOf (strValues []).toArray n) (listOf (strValues [] ++ [x]).toArray (n + 1)) news news')
    (h : ∀ h', Fr h₀ L h' m → News h₀ L h' news' → Q .none { s with heap := h' }) : wpAny (model prog w) A (call (.builtin "list.append") [.ref D, x]) Q E s := appStr F N U (Nat.zero_le _) h
theorem addNat {a b : Nat} (h : Q (.int ((a + b : Nat) : Int) s.toks) { s with toks := s.toks + 1 }) : wpAny (model prog w) A (binaryOp .Add (.int ((a : Nat) : Int) t) (.int ((b : Nat) : Int) u)) Q E s :=
  PyProof.Rows.add_int (by rw [← Int.natCast_add]; exact h)
theorem addHides {a b : Addr} {run : List Nat} {bk c1 c2 : Nat} {vs : List Value} {x : Int} (F : Fr h₀ L s.heap m) (N : News h₀ L s.heap news) (ha : (a, listOf vs.toArray c1) ∈ news) (hb : (b, listOf #[.int x u] c2) ∈ news) (hi : AreInts vs ((hdN run bk 7).map fun k : Nat => (k : Int)))
    (h : ∀ D us h', Fr h₀ L h' m → News h₀ L h' ((D, listOf (List.toArray us) 0) :: news) → (∀ p ∈ news, p.1 < D) → IntsAre us (((hdN run bk 7).map fun k : Nat => (k : Int)) ++ [x]) → Q (.ref D) { s with heap := h' }) : wpAny (model prog w) A (binaryOp .Add (.ref a) (.ref b)) Q E s :=
  kmk_add_ints (ws := [.int x u]) F N ⟨_, (N _ ha).1, rfl, _, rfl⟩ ⟨_, (N _ hb).1, rfl, _, rfl⟩ hi.ints (.cons _ _ .nil) h (by
    have := hdN_len run bk 7
    rw [sizeLine_eq, List.length_map]
    show _ + 1 ≤ _
    omega)
theorem minFh {run : List Nat} {bk c : Nat} {vs : List Value} (F : Fr h₀ L s.heap m) (N : News h₀ L s.heap news) (hm : (D, listOf vs.toArray c) ∈ news) (h7 : run.length = 7) (hi : IntsAre vs (((hdN run bk 7).map fun k : Nat => (k : Int)) ++ [((7 : Nat) : Int)])) (hh : A.handled = none)
    (h : ∀ h' (t : Tok) tk, Fr h₀ L h' m → News h₀ L h' news → Q (.int ((fh bk run : Nat) : Int) t) { s with heap := h', toks := tk }) : wpAny (model prog w) A (call (.builtin "min") [.ref D]) Q E s := by
  refine kso_min F N ⟨_, (N _ hm).1, rfl, _, rfl⟩ hi (by rw [List.length_append]; exact Nat.le_add_left 1 _) hh fun h' M t tk F' N' h1 h2 => ?_
  rw [show (7 : Nat) = run.length from h7.symm] at h1 h2
  rw [min_fh h1 h2]
  exact h h' t tk F' N'
theorem AreInts.drop {vs : List Value} {ns : List Int} (h : AreInts vs ns) (a : Nat) : AreInts (vs.drop a) (ns.drop a) := by
  obtain ⟨ps, rfl, rfl⟩ := h
  exact ⟨ps.drop a, by rw [List.map_drop], by rw [List.map_drop]⟩
theorem count_cast (l : List Nat) (a : Nat) : (l.map fun d : Nat => (d : Int)).count ((a : Nat) : Int) = l.count a := by
  induction l with
  | nil => rfl
  | cons d r ih =>
    rw [List.map_cons, List.count_cons, List.count_cons, ih]
    by_cases h : d = a
    · subst h; simp
    · have h2 : ¬ (d : Int) = (a : Int) := by omega
      simp [h, h2]
theorem countC {run : List Nat} {rv : List Value} {a c : Nat} (hr : AreInts rv (run.map fun d : Nat => (d : Int))) (N : News h₀ L s.heap news) (hm : (D, listOf (rv.drop a).toArray c) ∈ news) (h : Q (.int (((run.drop a).count 1 : Nat) : Int) s.toks) { s with toks := s.toks + 1 }) : wpAny (model prog w) A (call (.builtin "list.count") [.ref D, .int 1 t]) Q E s :=
  count_list_ints ⟨_, (N _ hm).1, rfl, _, rfl⟩ (hr.drop a).ints (by rw [← List.map_drop, show (1 : Int) = ((1 : Nat) : Int) from rfl, count_cast]; exact h)
end
theorem ct_spelledR (w : World) (run : List Nat) (b : Nat) (t : Tok) (LN : Addr) (es : List TabE) (c : Nat) (own : List (Addr × Obj)) (hr : es.map (·.d) = run) (h7 : es.length ≤ 7) (hok : TabsOk PySem.Challenge.rw_rw0051_02.row.prog w es) (h1 : (LN, listOf (tabRefs es).toArray c) ∈ own) (h2 : ∀ e ∈ es, (e.D, e.o) ∈ own) :
    Ct w 20 300 165 [.str (S [b]) t, .ref LN] own True (fun v n' => (∃ t', v = .str (S (spl run b)) t') ∧ n' = own) := by
  subst hr
  exact ct_spelled w b t LN es c own h7 hok h1 h2
end Mine
end SLs2
section STx2
open PySem PySem.W PyProof.Rows PySem.Calls
set_option Elab.async false
set_option maxRecDepth 100000
set_option maxHeartbeats 8000000
set_option pp.maxSteps 400
set_option autoImplicit false
namespace Mine
/-- the text of some parts, a part more -/
def stepT (w : List Nat) (p : Pt) : List Nat := (if w = [] then [] else w ++ (bsl p.2.1 ++ [p.1])) ++ (dts p.2.2.1 ++ bsl p.2.2.2.1 ++ [p.2.2.2.2])
def txtL (l : List Pt) : List Nat := l.foldl stepT []
theorem txtL_snoc (l : List Pt) (p : Pt) : txtL (l ++ [p]) = stepT (txtL l) p := by unfold txtL; rw [List.foldl_append]; rfl
theorem stepT_ne (w : List Nat) (p : Pt) : stepT w p ≠ [] := by unfold stepT; simp
theorem stepT_gd {n : Nat} {w : List Nat} {p : Pt} (h : Gd n w) (hp : PtLe p) : Gd (n + 20) (stepT w p) := by
  unfold stepT
  have h1 : Gd 7 (bsl p.2.1) := (gd_rep _ 92 (by decide)).le (by have := hp.marks; omega)
  have h2 : Gd 1 [p.1] := ⟨Nat.le_refl _, fun a ha => by rw [List.mem_singleton.mp ha]; exact hp.blank⟩
  have h3 : Gd 2 (dts p.2.2.1) := (gd_rep _ 46 (by decide)).le hp.dots
  have h4 : Gd 3 (bsl p.2.2.2.1) := (gd_rep _ 92 (by decide)).le (by have := hp.hidden; omega)
  have h5 : Gd 1 [p.2.2.2.2] := ⟨Nat.le_refl _, fun a ha => by rw [List.mem_singleton.mp ha]; exact hp.sign⟩
  have h6 := (h3.app h4).app h5
  split
  · exact (h6.le (by omega))
  · exact ((h.app (h1.app h2)).app h6).le (by omega)
theorem txt_gd : ∀ (l : List Pt) (w : List Nat) (n : Nat), Gd n w → (∀ p ∈ l, PtLe p) → Gd (n + 20 * l.length) (l.foldl stepT w)
  | [], _, _, h, _ => h
  | p :: l, w, n, h, hl => by
    have := txt_gd l (stepT w p) (n + 20) (stepT_gd h (hl p (.head _))) fun q hq => hl q (.tail _ hq)
    rw [List.length_cons]
    exact this.le (by omega)
theorem txtL_gd (l : List Pt) (hl : ∀ p ∈ l, PtLe p) : Gd (20 * l.length) (txtL l) := by
  have := txt_gd l [] 0 ⟨Nat.le_refl _, fun _ h => nomatch h⟩ hl
  exact this.le (by omega)
theorem tail_nil : ∀ ps : List Pt, (tailW [] ps).2 = []
  | [] => rfl
  | p :: ps => tail_nil ps
theorem txt_acc : ∀ (ps : List Pt) (w : List Nat), w ≠ [] → ps.foldl stepT w = w ++ (tailW [] ps).1
  | [], w, _ => by show w = w ++ []; rw [List.append_nil]
  | p :: ps, w, h => by
    rw [List.foldl_cons, txt_acc ps _ (stepT_ne w p)]
    have e : (tailW [] (p :: ps)).1 = bsl (half p.2.1 0) ++ [p.1] ++ (dts (p.2.2.1 + 0) ++ bsl (half p.2.2.2.1 0) ++ [p.2.2.2.2]) ++ (tailW [] ps).1 := rfl
    rw [e]
    unfold stepT half
    rw [if_neg h]
    simp [List.append_assoc]
/-- what is pushed is the one word of no deed -/
theorem words_txt {l : List Pt} (h : l ≠ []) : wordsW [] l = [txtL l] := by
  cases l with
  | nil => exact absurd rfl h
  | cons p ps =>
    show [seg [] 0 p ++ (tailW [] ps).1] ++ (tailW [] ps).2 = _
    rw [tail_nil]
    unfold txtL
    rw [List.foldl_cons, txt_acc ps _ (stepT_ne [] p)]
    have e : stepT [] p = seg [] 0 p := by
      unfold stepT
      rw [if_pos rfl]
      show dts p.2.2.1 ++ bsl p.2.2.2.1 ++ [p.2.2.2.2] = dts (p.2.2.1 + 0) ++ bsl (p.2.2.2.1 / 2 ^ 0) ++ [p.2.2.2.2]
      simp
    rw [e]; rfl
/-- a drawn part is small and well formed -/
theorem ptOf_le (n : Nat) : PtLe (ptOf n) := by
  have h2 : n / 8 % 2 < 2 := Nat.mod_lt _ (by decide)
  have h8 : n / 128 % 8 < 8 := Nat.mod_lt _ (by decide)
  have h5 : n / 1024 % 50000 < 50000 := Nat.mod_lt _ (by decide)
  refine ⟨?_, Nat.mod_lt _ (by decide), ?_, Nat.mod_lt _ (by decide), ?_⟩
  · show Cp ([32, 9].getD (n / 8 % 2) 0)
    generalize n / 8 % 2 = i at h2
    rcases i with _ | _ | i
    · decide
    · decide
    · omega
  · show n / 16 % 2 + 1 ≤ 2
    omega
  · show Cp ((ptSigns n).getD (n / 128 % 8) 0)
    unfold ptSigns
    generalize n / 128 % 8 = i at h8
    generalize n / 1024 % 50000 = j at h5
    rcases i with _ | _ | _ | _ | _ | _ | _ | _ | i
    · exact (by decide : Cp 38)
    · exact (by decide : Cp 60)
    · exact (by decide : Cp 62)
    · exact (by decide : Cp 34)
    · exact (by decide : Cp 97)
    · exact (by decide : Cp 46)
    · exact (by decide : Cp 35)
    · exact (⟨by omega, by omega, by omega⟩ : Cp (160 + j))
    · omega
theorem ptOf_ok (n : Nat) : PtOk (ptOf n) := by
  have h2 : n / 8 % 2 < 2 := Nat.mod_lt _ (by decide)
  have h8 : n / 128 % 8 < 8 := Nat.mod_lt _ (by decide)
  refine ⟨?_, Nat.le_add_left 1 _, ?_⟩
  · show [32, 9].getD (n / 8 % 2) 0 = 32 ∨ [32, 9].getD (n / 8 % 2) 0 = 9
    generalize n / 8 % 2 = i at h2
    rcases i with _ | _ | i
    · exact .inl rfl
    · exact .inr rfl
    · omega
  · show ws ((ptSigns n).getD (n / 128 % 8) 0) = false ∧ (ptSigns n).getD (n / 128 % 8) 0 ≠ 92
    unfold ptSigns
    generalize n / 128 % 8 = i at h8
    rcases i with _ | _ | _ | _ | _ | _ | _ | _ | i
    · exact (by decide : ws 38 = false ∧ (38 : Nat) ≠ 92)
    · exact (by decide : ws 60 = false ∧ (60 : Nat) ≠ 92)
    · exact (by decide : ws 62 = false ∧ (62 : Nat) ≠ 92)
    · exact (by decide : ws 34 = false ∧ (34 : Nat) ≠ 92)
    · exact (by decide : ws 97 = false ∧ (97 : Nat) ≠ 92)
    · exact (by decide : ws 46 = false ∧ (46 : Nat) ≠ 92)
    · exact (by decide : ws 35 = false ∧ (35 : Nat) ≠ 92)
    · show ws (160 + n / 1024 % 50000) = false ∧ 160 + n / 1024 % 50000 ≠ 92
      refine ⟨?_, by omega⟩
      unfold ws
      simp
      omega
    · omega
end Mine
end STx2
section STo2
namespace Mine
theorem fresh18 : True := by
  w_top off
  trivial
end Mine
open PySem PySem.W PyProof.Rows PySem.Calls
set_option Elab.async false
set_option maxRecDepth 100000
set_option maxHeartbeats 8000000
set_option pp.maxSteps 400
set_option autoImplicit false
local macro_rules | `(tactic| walk_at "exec Assign cons ListComp") => `(tactic| (refine Mine.Hold.out ?_))
local macro_rules | `(tactic| walk_at "call builtin:len") => `(tactic| (k_here; k_dflt (refine' Mine.lenC (by k_asm) (by first | k_mem | k_ownIn) (by with_reducible assumption) (by first | with_reducible assumption | decide) ?_; k_whole)))
local macro_rules | `(tactic| walk_at "CompSrcT") => `(tactic| (refine Mine.Hold.out ?_))
local macro_rules | `(tactic| walk_at "exec For") => `(tactic| (refine Mine.Hold.out ?_))
local macro_rules | `(tactic| k_all) => `(tactic| with_reducible assumption)
local macro_rules | `(tactic| walk_at "exec While Compare") => `(tactic| (refine Mine.Hold.out ?_))
local macro_rules | `(tactic| walk_at "compareOp In str ref") => `(tactic| (refine Mine.Hold.out ?_))
local macro_rules | `(tactic| walk_at "compareOp Eq ref ref") => `(tactic| (refine Mine.Hold.out ?_))
local macro_rules | `(tactic| k_upd) => `(tactic| first | exact Upd.head (by with_reducible assumption) | exact Upd.tail (by k_ne) (Upd.head (by with_reducible assumption)) | exact Upd.tail (by k_ne) (Upd.tail (by k_ne) (Upd.head (by with_reducible assumption))) | exact Upd.tail (by k_ne) (Upd.tail (by k_ne) (Upd.tail (by k_ne) (Upd.head (by with_reducible assumption)))))
local macro_rules | `(tactic| walk_at "call builtin:list.append") => `(tactic| (refine Mine.Hold.out ?_))
local macro_rules | `(tactic| walk_at "getItem ref int") => `(tactic| (k_here; (with_reducible show wpAny _ _ (getItem (Value.ref _) (Value.int (-1) _)) _ _ _); k_dflt (refine' Mine.lastGet (by k_asm) (by k_mem) ?_; k_whole)))
local macro_rules | `(tactic| walk_at "setItem ref int") => `(tactic| (k_here; (with_reducible show wpAny _ _ (setItem (Value.ref _) (Value.int (-1) _) _) _ _ _); k_dflt (refine' Mine.lastSet (by k_asm) (by k_asm) (by k_upd) ?_; k_whole); intro _ _ _))
local macro_rules | `(tactic| walk_at "compareOp Lt int int") => `(tactic| (refine Mine.Hold.out ?_))
local macro_rules | `(tactic| k_allIn) => `(tactic| first | with_reducible assumption | (refine Mine.memAll_tail ?_; k_allIn))
local macro_rules | `(tactic| walk_at "binaryOp Pow int int") => `(tactic| (k_here; k_dflt (refine' Mine.powC (by with_reducible assumption) ?_; k_whole)))
local macro_rules | `(tactic| walk_at "binaryOp FloorDiv int int") => `(tactic| (k_here; k_dflt (refine' Mine.halfC (by with_reducible assumption) ?_; k_whole)))
local macro_rules | `(tactic| walk_at "binaryOp Mult str int") => `(tactic| (k_here; (with_reducible show wpAny _ _ (binaryOp _ (Value.str (PySem.Str.ofString "\\") _) _) _ _ _); k_dflt (refine' Mine.mulBm (by k_all) (by with_reducible assumption) ?_; k_whole); intro _ _ _))
local macro_rules | `(tactic| walk_at "binaryOp Mult str int") => `(tactic| (k_here; (with_reducible show wpAny _ _ (binaryOp _ (Value.str (PySem.Str.ofString ".") _) _) _ _ _); k_dflt (refine' Mine.mulDt (by k_all) (by with_reducible assumption) ?_; k_whole); intro _ _ _))
local macro_rules | `(tactic| walk_at "binaryOp Add str str") => `(tactic| (k_here; k_dflt (refine' Mine.addM (by k_all) (by with_reducible assumption) (by with_reducible assumption) ?_; k_whole); intro _ _ _))
local macro_rules | `(tactic| walk_at "inplaceOp Add str str") => `(tactic| (k_here; k_dflt (refine' Mine.iaddM (by k_all) (by with_reducible assumption) (by with_reducible assumption) ?_; k_whole); intro _ _ _))
local macro_rules | `(tactic| walk_at "binaryOp Add int int") => `(tactic| (k_here; k_dflt (refine' Mine.addNat ?_; k_whole)))
local macro_rules | `(tactic| walk_at "binaryOp Add ref ref") => `(tactic| (refine Mine.Hold.out ?_))
local macro_rules | `(tactic| walk_at "call builtin:min") => `(tactic| (refine Mine.Hold.out ?_))
local macro_rules | `(tactic| walk_at "call builtin:list.count") => `(tactic| (refine Mine.Hold.out ?_))
local macro_rules | `(tactic| walk_at "subscriptTail Name Slice ref ref") => `(tactic| (refine Mine.Hold.out ?_))
local macro_rules | `(tactic| walk_at "subscriptTail Name Name ref int") => `(tactic| (k_here; k_dflt (refine' Mine.menuN ?N ?m ?b ?c ?_; (case c => with_reducible assumption); (case N => k_asm); (case m => first | k_mem | k_ownIn); (case b => with_reducible assumption); k_whole)))
local macro_rules | `(tactic| walk_at "call ref") => `(tactic| (refine Mine.Hold.out ?_))
local macro_rules | `(tactic| walk_at "execs nil") => `(tactic| (k_here; with_reducible refine wpAny_execs_nil ?_))
namespace Mine
section
variable {prog : Program} {w : World} {A : Around} {env : Env} {h₀ : Heap} {s : Shared} {E : Value → Shared → Prop} {news : List (Addr × Obj)} {m : PySem.Str → Option Value}
/-- where a while loop has ended -/
inductive WEnd (env : Env) (h₀ : Heap) (news : List (Addr × Obj)) (Fin : (PySem.Str → Option Value) → Prop) (s : Shared) (s' : Shared) : Prop
  | mk (h' : Heap) (tk : Nat) (m' : PySem.Str → Option Value) (c0 : s' = { s with heap := h', toks := tk }) (c1 : 1 ≤ tk) (c2 : Fin m') (c3 : Fr h₀ env.locals h' m') (c4 : News h₀ env.locals h' news) : WEnd env h₀ news Fin s s'
/-- a while loop, what follows it told once -/
theorem whileD {Inv : Nat → (PySem.Str → Option Value) → Prop} (Fin : (PySem.Str → Option Value) → Prop) {Q : Flow → Shared → Prop} {test : Expr} {body : List Stmt} {pos : Pos} {n : Nat} (F : Fr h₀ env.locals s.heap m) (N : News h₀ env.locals s.heap news) (ht : 1 ≤ s.toks) (hi : Inv n m)
    (turn : ∀ n h tk m, 1 ≤ tk → Inv n m → Fr h₀ env.locals h m → News h₀ env.locals h news → ∀ E' : Value → Shared → Prop,
      wpAny (model prog w) A (isTrue test env (eval test env)) (fun b s₂ => if b = true then wpAny (model prog w) A (execs body env) (WTurn env h₀ news Inv s n Q) E' s₂ else WEnd env h₀ news Fin s s₂) E' { s with heap := h, toks := tk })
    (done : ∀ h tk m', 1 ≤ tk → Fin m' → Fr h₀ env.locals h m' → News h₀ env.locals h news → Q .next { s with heap := h, toks := tk }) :
    wpAny (model prog w) A (exec (.While test body [] pos) env) Q E s :=
  whileN F N ht hi fun n h tk m htk hI F N E' => wpAny_mono (turn n h tk m htk hI F N E') (fun b s₂ hb => by
    cases b with
    | true => rw [if_pos rfl] at hb ⊢; exact hb
    | false =>
      rw [if_neg (by decide)] at hb ⊢
      obtain ⟨h', tk', m', rfl, h1, h2, h3, h4⟩ := hb
      exact done h' tk' m' h1 h2 h3 h4) fun _ _ e => e
end
end Mine
namespace Mine
/-- a part on the ledger -/
structure PartE where
  (T : Addr)
  (p : Pt)
  (t1 t2 t3 t4 t5 : Tok)
def partRefs (ps : List PartE) : List Value := ps.map fun e => .ref e.T
abbrev partO (e : PartE) : Obj := partObj e.p e.t1 e.t2 e.t3 e.t4 e.t5
/-- the tables of the run's deeds, laid one by one -/
def tabLed (es : List TabE) : List (Addr × Obj) := es.map fun e => (e.D, e.o)
def NmJ (prog : Program) (w : World) (run : List Nat) (own : List (Addr × Obj)) (x1 x2 x3 : Addr × Obj) (i : Nat) (ys : List Value) (nw : List (Addr × Obj)) : Prop :=
  ∃ es : List TabE, ys = tabRefs es ∧ es.map (·.d) = run.take i ∧ TabsOk prog w es ∧ (∀ e ∈ es, x1.1 < e.D ∧ x2.1 < e.D ∧ x3.1 < e.D) ∧ nw = x1 :: x2 :: x3 :: (tabLed es.reverse ++ own)
/-- a table more -/
theorem names_end {h₀ h' : Heap} {L I C D D9 : Addr} {m : PySem.Str → Option Value} {s₁ : Shared} {oI oC oD o9 : Obj} {tk d : Nat} {x1 x2 x3 : Addr × Obj} {own : List (Addr × Obj)} {es : List TabE} {rest : Value → List (Addr × Obj) → Prop}
    (F : Fr h₀ L h' m) (N : News h₀ L h' ((D9, o9) :: (I, oI) :: (C, oC) :: (D, oD) :: x1 :: x2 :: x3 :: (tabLed es.reverse ++ own))) (off : LCg.Off3 I C D (x1 :: x2 :: x3 :: (tabLed es.reverse ++ own))) (hal : AllLt D9 ((I, oI) :: (C, oC) :: (D, oD) :: x1 :: x2 :: x3 :: (tabLed es.reverse ++ own)))
    (r : rest (.ref D9) (x1 :: x2 :: x3 :: (tabLed (es ++ [(⟨D9, o9, d⟩ : TabE)]).reverse ++ own))) :
    LCg.CompEnd h₀ L m s₁ I oI C oC D oD (fun _ => True) rest (.ref D9) { s₁ with heap := h', toks := tk } := by
  have er : tabLed (es ++ [(⟨D9, o9, d⟩ : TabE)]).reverse = (D9, o9) :: tabLed es.reverse := by rw [List.reverse_append]; rfl
  have hI : D9 ≠ I := Nat.ne_of_gt hal.1
  have hC : D9 ≠ C := Nat.ne_of_gt hal.2.1
  have hD : D9 ≠ D := Nat.ne_of_gt hal.2.2.1
  rw [er] at r
  refine LCg.CompEnd.intro F N (x1 :: x2 :: x3 :: (D9, o9) :: (tabLed es.reverse ++ own)) (fun p hp => ?_) (show LCg.Off3 I C D (x1 :: x2 :: x3 :: (D9, o9) :: (tabLed es.reverse ++ own)) from ⟨off.1, off.2.1, off.2.2.1, ⟨hI, hC, hD⟩, off.2.2.2⟩) trivial r
  iterate 6 (rcases List.mem_cons.mp hp with rfl | hp; · (repeat first | exact List.Mem.head _ | refine List.Mem.tail _ ?_))
  rcases List.mem_cons.mp hp with rfl | hp
  · exact .head _
  · (repeat first | exact hp | refine List.Mem.tail _ ?_)
theorem nmJ_step {prog : Program} {w : World} {run : List Nat} {own : List (Addr × Obj)} {x1 x2 x3 : Addr × Obj} {i d : Nat} {es : List TabE} {D9 : Addr} {o9 : Obj} (hes : es.map (·.d) = run.take i) (hok : TabsOk prog w es) (lo : (D9 == sysModules) = false) (hn : NamesOf prog w o9 (tabOf d)) (hd7 : d < 7) (hd : run[i]? = some d) (hgt : ∀ e ∈ es, x1.1 < e.D ∧ x2.1 < e.D ∧ x3.1 < e.D) {y1 y2 y3 : Addr × Obj} (hal : AllLt D9 (y1 :: y2 :: y3 :: x1 :: x2 :: x3 :: (tabLed es.reverse ++ own))) :
    NmJ prog w run own x1 x2 x3 (i + 1) (tabRefs es ++ [.ref D9]) (x1 :: x2 :: x3 :: (tabLed (es ++ [(⟨D9, o9, d⟩ : TabE)]).reverse ++ own)) := by
  refine ⟨es ++ [(⟨D9, o9, d⟩ : TabE)], ?_, ?_, ?_, ?_, rfl⟩
  · unfold tabRefs; rw [List.map_append]; rfl
  · rw [List.map_append, hes, List.take_add_one, hd]; rfl
  · intro e he
    rcases List.mem_append.mp he with he | he
    · exact hok e he
    · rw [List.mem_singleton.mp he]; exact ⟨lo, hn, hd7⟩
  · intro e he
    rcases List.mem_append.mp he with he | he
    · exact hgt e he
    · rw [List.mem_singleton.mp he]; exact ⟨hal.2.2.2.1, hal.2.2.2.2.1, hal.2.2.2.2.2.1⟩
/-- the cell of the tables is set -/
theorem tab_off {es : List TabE} {own : List (Addr × Obj)} {c L : Addr} (hgt : ∀ e ∈ es, c < e.D) (hal : AllLt L own) (hc : L < c) : ∀ p ∈ tabLed es.reverse ++ own, p.1 ≠ c := by
  intro p hp
  rcases List.mem_append.mp hp with hp | hp
  · obtain ⟨e, he, rfl⟩ := List.mem_map.mp hp
    exact Nat.ne_of_gt (hgt e (List.mem_reverse.mp he))
  · exact Nat.ne_of_lt (Nat.lt_trans (PySem.W.kst_ltOf hal p hp) hc)
theorem ints_at {rv : List Value} {run : List Nat} (h : AreInts rv (run.map fun d : Nat => (d : Int))) {i : Nat} {v : Value} (hv : rv[i]? = some v) : ∃ d t, run[i]? = some d ∧ v = .int (d : Int) t := by
  have hi : i < run.length := by
    have e := h.length
    rw [List.length_map] at e
    rcases Nat.lt_or_ge i run.length with h | h
    · exact h
    · rw [List.getElem?_eq_none (by omega)] at hv; cases hv
  obtain ⟨t, ht⟩ := h.at (i := i) (n := (run[i] : Int)) (by rw [List.getElem?_map, List.getElem?_eq_getElem hi]; rfl)
  rw [ht] at hv
  exact ⟨run[i], t, List.getElem?_eq_getElem hi, (Option.some.inj hv).symm⟩
abbrev RdJ (run : List Nat) (base : List (Addr × Obj)) (j : Nat) (ys : List Value) (nw : List (Addr × Obj)) : Prop := AreInts ys ((rdN run j).map fun k : Nat => (k : Int)) ∧ nw = base
abbrev HdJ (run : List Nat) (b : Nat) (base : List (Addr × Obj)) (j : Nat) (ys : List Value) (nw : List (Addr × Obj)) : Prop := AreInts ys ((hdN run b j).map fun k : Nat => (k : Int)) ∧ nw = base
theorem ints_get {rv : List Value} {run : List Nat} (h : AreInts rv (run.map fun d : Nat => (d : Int))) {j : Nat} (hj : j < run.length) : ∃ d t, run[j]? = some d ∧ rv[j]? = some (.int (d : Int) t) := by
  obtain ⟨t, ht⟩ := h.at (i := j) (n := (run[j] : Int)) (by rw [List.getElem?_map, List.getElem?_eq_getElem hj]; rfl)
  exact ⟨run[j], t, List.getElem?_eq_getElem hj, ht⟩
/-- where the loop over the parts stands -/
def TdJ (run : List Nat) (ps : List PartE) (TD RD BC : Addr) (base : List (Addr × Obj)) (i : Nat) (m' : PySem.Str → Option Value) (nw : List (Addr × Obj)) : Prop :=
  ∃ xs c ob v₀, m' ("told" : PySem.Str) = some (.ref TD) ∧ m' ("readings" : PySem.Str) = some (.ref RD) ∧ xs.map (·.1) = (wordsP run ((ps.take i).map (·.p))).map S ∧ nw = (TD, listOf (strValues xs).toArray c) :: (BC, ob) :: base ∧ ob.data = .cell v₀
def OnF (mk : Nat) (mb : PySem.Str → Option Value) (m' : PySem.Str → Option Value) : Prop := ∃ t, m' = (fun y => if y = ("ones" : PySem.Str) then some (.int ((ones1 3 mk : Nat) : Int) t) else mb y)
theorem set_set {x : PySem.Str} {v1 v2 : Value} {mb : PySem.Str → Option Value} : (fun y => if y = x then some v1 else if y = x then some v2 else mb y) = fun y => if y = x then some v1 else mb y := by
  funext y
  by_cases h : y = x
  · rw [if_pos h, if_pos h]
  · rw [if_neg h, if_neg h, if_neg h]
theorem on_step {mk o : Nat} (ho : o < 3) (h1 : ones1 3 mk = o + ones1 (3 - o) (mk / 2 ^ o)) (h : mk / 2 ^ o % 2 = 1) : ones1 3 mk = (o + 1) + ones1 (3 - (o + 1)) (mk / 2 ^ (o + 1)) := by
  have e : 3 - o = (3 - (o + 1)) + 1 := by omega
  have key : ones1 (3 - o) (mk / 2 ^ o) = ones1 (3 - (o + 1)) (mk / 2 ^ (o + 1)) + 1 := by
    rw [e, show ones1 ((3 - (o + 1)) + 1) (mk / 2 ^ o) = if mk / 2 ^ o % 2 = 1 then ones1 (3 - (o + 1)) (mk / 2 ^ o / 2) + 1 else 0 from rfl, if_pos h, Nat.div_div_eq_div_mul, ← Nat.pow_succ]
  omega
theorem on_end {mk o : Nat} (ho : o ≤ 3) (h1 : ones1 3 mk = o + ones1 (3 - o) (mk / 2 ^ o)) (h : o = 3 ∨ mk / 2 ^ o % 2 ≠ 1) : ones1 3 mk = o := by
  rw [h1]
  by_cases h3 : o = 3
  · subst h3; rfl
  · have e : 3 - o = (3 - (o + 1)) + 1 := by omega
    rw [e, show ones1 ((3 - (o + 1)) + 1) (mk / 2 ^ o) = if mk / 2 ^ o % 2 = 1 then ones1 (3 - (o + 1)) (mk / 2 ^ o / 2) + 1 else 0 from rfl, if_neg (h.resolve_left h3)]
    rfl
theorem on_true {mk o : Nat} (hm : mk < 8) (ho : o ≤ 3) (h : ((half mk o : Nat) : Int).fmod 2 = 1) : o < 3 ∧ mk / 2 ^ o % 2 = 1 ∧ 3 - (o + 1) < 3 - o := by
  rw [show ((half mk o : Nat) : Int).fmod 2 = ((half mk o % 2 : Nat) : Int) from fmn _ 2] at h
  unfold half at h
  have h3 : o ≠ 3 := by
    rintro rfl
    have : mk / 2 ^ 3 = 0 := Nat.div_eq_of_lt hm
    rw [this] at h
    cases h
  omega
theorem on_false {mk o : Nat} (h : ((half mk o : Nat) : Int).fmod 2 ≠ 1) : mk / 2 ^ o % 2 ≠ 1 := fun e => h (by
  rw [show ((half mk o : Nat) : Int).fmod 2 = ((half mk o % 2 : Nat) : Int) from fmn _ 2]
  unfold half
  rw [e]; rfl)
theorem base_off {h₀ h : Heap} {L c : Addr} {t a1 a2 a3 a4 : Addr × Obj} {b : Obj} {l : List (Addr × Obj)} (_N : News h₀ L h (t :: a1 :: a2 :: (c, b) :: a3 :: a4 :: l)) (e1 : a1.1 ≠ c) (e2 : a2.1 ≠ c) (e3 : a3.1 ≠ c) (e4 : a4.1 ≠ c) (hl : ∀ p ∈ l, p.1 ≠ c) : ∀ p ∈ a1 :: a2 :: a3 :: a4 :: l, p.1 ≠ c := by
  intro p hp
  rcases List.mem_cons.mp hp with rfl | hp
  · exact e1
  · rcases List.mem_cons.mp hp with rfl | hp
    · exact e2
    · rcases List.mem_cons.mp hp with rfl | hp
      · exact e3
      · rcases List.mem_cons.mp hp with rfl | hp
        · exact e4
        · exact hl p hp
/-- where the loop of the ones stands -/
def OnJ (mk : Nat) (mb : PySem.Str → Option Value) (k : Nat) (m' : PySem.Str → Option Value) : Prop :=
  ∃ o t, m' = (fun y => if y = ("ones" : PySem.Str) then some (.int ((o : Nat) : Int) t) else mb y) ∧ o ≤ 3 ∧ k = 3 - o ∧ ones1 3 mk = o + ones1 (3 - o) (mk / 2 ^ o)
theorem compEnd_same {h₀ h' : Heap} {L I C D : Addr} {m : PySem.Str → Option Value} {s₁ : Shared} {oI oC oD : Obj} {nw : List (Addr × Obj)} {rest : Value → List (Addr × Obj) → Prop} {tk : Nat} {y : Value}
    (F : Fr h₀ L h' m) (N : News h₀ L h' ((I, oI) :: (C, oC) :: (D, oD) :: nw)) (off : LCg.Off3 I C D nw) (r : rest y nw) : LCg.CompEnd h₀ L m s₁ I oI C oC D oD (fun _ => True) rest y { s₁ with heap := h', toks := tk } :=
  LCg.CompEnd.intro F N _ (fun _ hp => hp) off trivial r
/-- where the choice of a blank has ended -/
inductive TdIf (h₀ : Heap) (L : Addr) (mb : PySem.Str → Option Value) (TD : Addr) (led : List (Addr × Obj)) (run : List Nat) (l : List Pt) (p : Pt) (s : Shared) (s' : Shared) : Prop
  | mk (h' : Heap) (tk : Nat) (xs0 : List (PySem.Str × Tok)) (W : List (List Nat)) (pr : List Nat) (t : Tok) (a : Nat) (ta : Tok) (c : Nat) (e : s' = { s with heap := h', toks := tk }) (htk : 1 ≤ tk) (hx : xs0.map (·.1) = W.map S)
      (F : Fr h₀ L h' (fun y => if y = ("since" : PySem.Str) then some (.int ((a : Nat) : Int) ta) else mb y)) (N : News h₀ L h' ((TD, listOf (strValues xs0 ++ [Value.str (S pr) t]).toArray c) :: led)) (hp : TdPre run l p W pr a) : TdIf h₀ L mb TD led run l p s s'
theorem TdIf.two {h₀ : Heap} {L : Addr} {mb : PySem.Str → Option Value} {TD : Addr} {led : List (Addr × Obj)} {run : List Nat} {l : List Pt} {p : Pt} {s : Shared} {h' : Heap} {tk : Nat} {xs0 : List (PySem.Str × Tok)} {W : List (List Nat)} {w : List Nat} {t t2 : Tok} {a : Nat} {ta : Tok} {c : Nat} (hx : xs0.map (·.1) = W.map S) (htk : 1 ≤ tk)
    (F : Fr h₀ L h' (fun y => if y = ("since" : PySem.Str) then some (.int ((a : Nat) : Int) ta) else mb y)) (N : News h₀ L h' ((TD, listOf (strValues xs0 ++ [Value.str (S w) t] ++ [Value.str (PySem.Str.ofString "") t2]).toArray c) :: led)) (hp : TdPre run l p (W ++ [w]) [] a) : TdIf h₀ L mb TD led run l p s { s with heap := h', toks := tk } :=
  .mk h' tk (xs0 ++ [(S w, t)]) (W ++ [w]) [] t2 a ta c rfl htk (by rw [List.map_append, List.map_append, hx]; rfl) F (by rw [show strValues (xs0 ++ [(S w, t)]) = strValues xs0 ++ [Value.str (S w) t] by simp [strValues]]; exact N) hp
theorem told_if {M : Model} {A : Around} {env : Env} {h₀ : Heap} {L : Addr} {mb : PySem.Str → Option Value} {x : Addr × Obj} {led : List (Addr × Obj)} {st : Stmt} {rest : List Stmt} {s : Shared} {Q : Flow → Shared → Prop} {E : Value → Shared → Prop} (run : List Nat) (l : List Pt) (p : Pt) (_F : Fr h₀ L s.heap mb) (_N : News h₀ L s.heap (x :: led))
    (h1 : ∀ (Q' : Flow → Shared → Prop) (E' : Value → Shared → Prop), (∀ s', TdIf h₀ L mb x.1 led run l p s s' → Q' .next s') → wpAny M A (exec st env) Q' E' s) (h2 : ∀ s', TdIf h₀ L mb x.1 led run l p s s' → wpAny M A (execs rest env) Q E s') : wpAny M A (execs (st :: rest) env) Q E s := seqI (h1 _ _ fun _ h => ⟨rfl, h⟩) h2
theorem front3 {h₀ h : Heap} {L : Addr} {a b c x : Addr × Obj} {l : List (Addr × Obj)} (N : News h₀ L h (a :: b :: c :: x :: l)) : News h₀ L h (x :: a :: b :: c :: l) := fun p hp => N p (by
  rcases List.mem_cons.mp hp with rfl | hp
  · exact .tail _ (.tail _ (.tail _ (.head _)))
  · rcases List.mem_cons.mp hp with rfl | hp
    · exact .head _
    · rcases List.mem_cons.mp hp with rfl | hp
      · exact .tail _ (.head _)
      · rcases List.mem_cons.mp hp with rfl | hp
        · exact .tail _ (.tail _ (.head _))
        · exact .tail _ (.tail _ (.tail _ (.tail _ hp))))
theorem led_off {h₀ h : Heap} {L : Addr} {x a1 a2 a3 a4 a5 a6 a7 a8 : Addr × Obj} {l : List (Addr × Obj)} (_N : News h₀ L h (x :: a1 :: a2 :: a3 :: a4 :: a5 :: a6 :: a7 :: a8 :: l)) (e1 : @Ne Nat x.1 a1.1) (e2 : @Ne Nat a2.1 x.1) (e3 : @Ne Nat a3.1 x.1) (e4 : @Ne Nat a4.1 x.1) (e5 : @Ne Nat a5.1 x.1) (e6 : @Ne Nat a6.1 x.1) (e7 : @Ne Nat a7.1 x.1) (e8 : @Ne Nat a8.1 x.1) (hal : AllLt x.1 l) : ∀ p ∈ a1 :: a2 :: a3 :: a4 :: a5 :: a6 :: a7 :: a8 :: l, p.1 ≠ x.1 := by
  intro p hp
  rcases List.mem_cons.mp hp with rfl | hp
  · exact Ne.symm e1
  rcases List.mem_cons.mp hp with rfl | hp
  · exact e2
  rcases List.mem_cons.mp hp with rfl | hp
  · exact e3
  rcases List.mem_cons.mp hp with rfl | hp
  · exact e4
  rcases List.mem_cons.mp hp with rfl | hp
  · exact e5
  rcases List.mem_cons.mp hp with rfl | hp
  · exact e6
  rcases List.mem_cons.mp hp with rfl | hp
  · exact e7
  rcases List.mem_cons.mp hp with rfl | hp
  · exact e8
  exact Nat.ne_of_lt (PySem.W.kst_ltOf hal p hp)
/-- the end of a turn -/
theorem td_turn {run : List Nat} {ps : List PartE} {TD RD BC : Addr} {base : List (Addr × Obj)} {i : Nat} {h₀ h : Heap} {L I : Addr} {oI o1 o2 ob : Obj} {s : Shared} {Q : Flow → Shared → Prop} {m' : PySem.Str → Option Value} {tk c : Nat} {a0 a1 a2 z : Addr × Obj} {xs : List (PySem.Str × Tok)} {y : List Nat} {t : Tok} {v₀ : Option Value}
    (F : Fr h₀ L h m') (N : News h₀ L h (a0 :: (TD, listOf (strValues xs ++ [Value.str (S y) t]).toArray c) :: a1 :: a2 :: (I, oI) :: (BC, ob) :: base)) (htk : 1 ≤ tk) (g1 : m' ("told" : PySem.Str) = some (.ref TD)) (g2 : m' ("readings" : PySem.Str) = some (.ref RD)) (hob : ob.data = .cell v₀)
    (hx : xs.map (·.1) ++ [S y] = (wordsP run ((ps.take (i + 1)).map (·.p))).map S) (offI : ∀ p ∈ (TD, o1) :: (BC, o2) :: base, p.1 ≠ I) (hz : z ∈ base) : FTurn h₀ L s I oI (fun m' n' => TdJ run ps TD RD BC base (i + 1) m' n' ∧ z ∈ n') Q .next { s with heap := h, toks := tk } := by
  have e : strValues xs ++ [Value.str (S y) t] = strValues (xs ++ [(S y, t)]) := by simp [strValues]
  rw [e] at N
  refine FTurn.intro _ F N htk (fun p hp => ?_) (fun p hp => ?_) ⟨⟨xs ++ [(S y, t)], c, ob, v₀, g1, g2, by rw [List.map_append]; exact hx, rfl, hob⟩, .tail _ (.tail _ hz)⟩
  · rcases List.mem_cons.mp hp with rfl | hp
    · exact .tail _ (.tail _ (.tail _ (.tail _ (.head _))))
    · rcases List.mem_cons.mp hp with rfl | hp
      · exact .tail _ (.head _)
      · exact .tail _ (.tail _ (.tail _ (.tail _ (.tail _ hp))))
  · rcases List.mem_cons.mp hp with rfl | hp
    · exact offI (TD, o1) (.head _)
    · rcases List.mem_cons.mp hp with rfl | hp
      · exact offI (BC, o2) (.tail _ (.head _))
      · exact offI _ (.tail _ (.tail _ hp))
theorem ct_told (w : World) (run : List Nat) (hrun : ∀ d ∈ run, d < 7) (hl7 : run.length = 7) (rv : List Value) (hrv : AreInts rv (run.map fun d : Nat => (d : Int))) (RL PL : Addr) (cr cp : Nat) (ps : List PartE) (hps : ps ≠ []) (hlp : ps.length ≤ 5) (hpm : ∀ e ∈ ps, PtLe e.p) (own : List (Addr × Obj))
    (h1 : (RL, listOf rv.toArray cr) ∈ own) (h2 : (PL, listOf (partRefs ps).toArray cp) ∈ own) (h3 : ∀ e ∈ ps, (e.T, partO e) ∈ own) :
    Ct w 60 800 170 [.ref PL, .ref RL] own True (fun v n' => ∃ D xs c, v = .ref D ∧ xs.map (·.1) = (wordsW run (ps.map (·.p))).map S ∧ n' = (D, listOf (strValues xs).toArray c) :: own) := by
  unfold Ct
  k_fill
  intro p loose mean mg mb dp un gd env outer A₀ base h₀ L m s Q E B F X N T hf hk hdp hun htk hx hret
  refine codeAny_with_toks htk ?_
  k_dflt ktr_enter
  have hlr : rv.length = 7 := by rw [hrv.length, List.length_map, hl7]
  k_steps
  unfold Hold
  walk_at "exec Assign"
  k_steps
  rename News _ _ _ _ => N9
  refine' compAt_list (NmJ PySem.Challenge.rw_rw0051_02.row.prog w run own _ _ _) ?hh ?F N9 ?hm ?hsz ?hj ?turn ?fin
  case hh => exact rfl
  case F => k_asm
  case hj => exact ⟨[], rfl, by rw [List.take_zero]; rfl, (by intro e he; cases he), (by intro e he; cases he), by rw [show tabLed ([] : List TabE).reverse = [] from rfl, List.nil_append]⟩
  case hm => first | k_mem | k_ownIn
  case hsz => rw [sizeLine_eq]; omega
  case turn =>
    rintro i ys nw v I oI C oC D m₂ h tk g E' ⟨es, rfl, hes, hok, hgt, rfl⟩ hm9 hv hO hmx F N off ne
    obtain ⟨d9, t9, hd9, rfl⟩ := ints_at hrv hv
    have hd7 : d9 < 7 := hrun _ (List.mem_of_getElem? hd9)
    refine absE fun Q' E' hQ' => ?_
    k_steps
    unfold Hold
    k_dflt (refine' Mine.ct_use0 (Mine.ct_names0 _ _ _ ?hd7z1 _) (by k_asm) (by k_asm) (by k_asm) (by k_asm) (by k_asm) (by exact rfl) (by exact rfl) (by ktr_room) (by ktr_units) trivial ?_; (case hd7z1 => assumption); k_whole; intro _ _ _ _ _ _ _ hp9; obtain ⟨_, _, e1, _, _, _, e2⟩ := hp9; subst e1; subst e2; (try k_sweep))
    k_steps
    refine hQ' _ _ ?_
    exact names_end (by k_asm) (by k_asm) off (by assumption) ⟨nmJ_step hes hok (by assumption) (by assumption) hd7 hd9 hgt (by assumption), .tail _ (.tail _ (.tail _ (List.mem_append_right _ h1)))⟩
  case fin =>
    rintro g ys nw ⟨es, rfl, hes, hok, hgt, rfl⟩ D₂ h tk F N off
    dsimp only
    rename AllLt _ own => hal9
    have hup := tab_off (c := _ + 1 + 1) (fun e he => (hgt e he).2.1) hal9 (Nat.lt_succ_of_lt (Nat.lt_succ_self _))
    refine' storeX_C ?zF N ?zc (.tail ?u1 (.tail ?u2 (.head ?u3))) ?zd ?_
    case zF => k_asm
    case zc => exact rfl
    case u1 => first | exact off.2.1 | exact Ne.symm off.2.1
    case u2 => exact Nat.ne_of_gt (Nat.lt_succ_self _)
    case u3 =>
      intro p hp
      rcases List.mem_cons.mp hp with rfl | hp
      · exact Nat.ne_of_lt (Nat.lt_succ_self _)
      · exact hup p hp
    case zd => assumption
    intro h8 o8 F8 N8 d8
    rw [show ∀ xs : List Value, LCg.lst xs = listOf xs.toArray xs.length from fun _ => rfl] at N8
    have hrs : rv.toArray.size = 7 := by rw [List.size_toArray, hlr]
    have hsub : ∀ p ∈ own, p ∈ tabLed es.reverse ++ own := fun _ h => List.mem_append_right _ h
    have k1 := hsub _ h1
    have k2 := hsub _ h2
    have k3 : ∀ e ∈ ps, (e.T, partO e) ∈ tabLed es.reverse ++ own := fun e he => hsub _ (h3 e he)
    have k4 : ∀ e ∈ es, (e.D, e.o) ∈ tabLed es.reverse ++ own := fun e he => List.mem_append_left _ (List.mem_map.mpr ⟨e, List.mem_reverse.mpr he, rfl⟩)
    have k5 : ∀ p ∈ tabLed es.reverse ++ own, p.1 ≠ _ + 1 + 1 + 1 := tab_off (fun e he => (hgt e he).1) hal9 (Nat.lt_succ_of_lt (Nat.lt_succ_of_lt (Nat.lt_succ_self _)))
    have k6 : ∀ e ∈ ps, @LT.lt Nat _ e.T _ := fun e he => PySem.W.kst_ltOf hal9 _ (h3 e he)
    have k7 := off.1
    clear N off hup
    generalize tabLed es.reverse ++ own = own9 at N8 hsub k1 k2 k3 k4 k5
    k_steps
    unfold Hold
    (with_reducible refine' LCt.Assign_ListComp_T ?Fy1 ?Ly1 ?wy1 ?cy1 ?dy1 ?ky1 ?ny1 ?xy1 ?yy1 ?py1 ?_ ?sy1); (case Fy1 => k_asm); k_dflt ((case Ly1 => rfl); (case wy1 => with_unfolding_all rfl); (case cy1 => with_unfolding_all rfl); (case dy1 => decide); (case ky1 => rfl); (case ny1 => decide); (case xy1 => rfl); (case yy1 => rfl); (case py1 => rfl); (case sy1 => exact fun _ => rfl))
    k_steps
    rename IsRange _ _ _ _ _ _ _ _ => hr9
    rename News _ _ _ _ => N7
    refine LCt.CompSrcT.range (n := 7) (by exact rfl) (by k_asm) N7 hr9 (by decide) (by decide) (by decide) (fun g8 => ?_)
    refine restT_inv (RdJ run _) ?hJS ⟨AreInts.nil, rfl⟩ ?turn2 ?fin2
    case hJS => intro _ _ _ _; trivial
    case turn2 =>
      rintro j ys nw v I2 oI2 C2 oC2 D2 m₂ h2' tk2 E2 hj ⟨hys, rfl⟩ ⟨t5, rfl⟩ hO hmx F N off ne
      have hi0 : (0 : Int) + (j : Int) = (j : Int) := Int.zero_add _
      rw [hi0] at hmx
      obtain ⟨d5, u5, hd5, hv5⟩ := ints_get hrv (show j < run.length by rw [hl7]; exact hj)
      have hx9 : rv[((j : Int)).toNat]? = some (.int (d5 : Int) u5) := hv5
      have hstep := rdN_succ hd5
      have hj7 : j ≤ 7 := Nat.le_of_lt hj
      refine absT fun Q' R' E' hQ' hR' => ?_
      by_cases h0 : d5 = 0
      · subst h0
        rw [if_pos rfl] at hstep
        k_steps
        all_goals first
          | exact hQ' _ _ (compEnd_same (by k_asm) (by k_asm) off ⟨by rw [hstep, List.map_append]; exact hys.snoc _ _, rfl⟩)
          | (exfalso; simp_all)
      · rw [if_neg h0] at hstep
        k_steps
        all_goals first
          | exact hR' _ (compEnd_same (by k_asm) (by k_asm) off ⟨by rw [hstep, List.append_nil]; exact hys, rfl⟩)
          | (exfalso; simp_all)
    case fin2 =>
      rintro ys nw ⟨hys, rfl⟩ D7 h7' tk7 F7 N7 off7
      dsimp only
      k_steps
      unfold Hold
      k_dflt (refine Mine.forWT (by k_asm) (by first | assumption | (dsimp only; omega)) (fun _ => rfl) ?_)
      k_steps
      intro ht9
      rename News _ _ _ _ => N6
      have hbase := base_off N6 (by first | exact off7.2.1 | exact Ne.symm off7.2.1) (by first | exact k7 | exact Ne.symm k7) (Nat.ne_of_lt (Nat.lt_succ_self _)) (Nat.ne_of_lt (Nat.lt_succ_of_lt (Nat.lt_succ_self _))) k5
      have hz : ps.length ≤ sizeLine := by rw [sizeLine_eq]; omega
      refine' forAt_list (vs := partRefs ps) (TdJ run ps _ D7 _ _) ?hh ?F6 ?N6 ?hm6 ?ht6 ?hj6 ?turn6 ?done6
      case hh => exact rfl
      case F6 => k_asm
      case N6 => exact fun p hp => N6 p (by
        rcases List.mem_cons.mp hp with rfl | hp
        · exact .head _
        · rcases List.mem_cons.mp hp with rfl | hp
          · exact .tail _ (.tail _ (.tail _ (.head _)))
          · rcases List.mem_cons.mp hp with rfl | hp
            · exact .tail _ (.head _)
            · rcases List.mem_cons.mp hp with rfl | hp
              · exact .tail _ (.tail _ (.head _))
              · exact .tail _ (.tail _ (.tail _ (.tail _ hp))))
      case hm6 => k_ownIn
      case ht6 => exact ht9
      case hj6 =>
        refine' ⟨[], 0, ?z1, ?z2, ?a1, ?a2, rfl, ?a3, ?a4⟩
        case a3 => exact rfl
        case a1 => exact rfl
        case a2 => exact rfl
        case a4 => assumption
      case turn6 =>
        rintro I oI i v m₁ news₁ h9 tk9 E9 hI hv ⟨xs, c9, ob, v₀, g1, g2, hxs, rfl, hob⟩ hlI htk9 F N offI
        unfold partRefs at hv
        rw [List.getElem?_map] at hv
        obtain ⟨e9, he9, rfl⟩ : ∃ e, ps[i]? = some e ∧ v = .ref e.T := by
          cases hq : ps[i]? with
          | none => rw [hq] at hv; cases hv
          | some e => rw [hq] at hv; cases hv; exact ⟨e, rfl, rfl⟩
        have hT9 := k3 _ (List.mem_of_getElem? he9)
        have hTl := k6 _ (List.mem_of_getElem? he9)
        have hIB := hI _ (.tail _ (.head _))
        replace F := Fr_ch2 "told" "readings" F g1 g2
        replace N : News _ _ _ ((e9.T, partO e9) :: (I, oI) :: _) := fun p hp => by
          rcases List.mem_cons.mp hp with rfl | hp
          · exact N _ (by repeat first | exact hT9 | refine List.Mem.tail _ ?_)
          · exact N p hp
        refine absF fun Q' E' hQ' => ?_
        k_steps
        unfold Hold
        rename News _ _ _ _ => N4
        refine' whileD (Inv := OnJ e9.p.2.1 ?mb9) (OnF e9.p.2.1 ?mb9) (n := 3) ?F4 N4 ?ht4 ?hi4 ?turn4 ?done4
        case F4 => k_asm
        case ht4 => first | assumption | (dsimp only; omega)
        case hi4 =>
          refine' ⟨0, ?t4, ?e4, Nat.zero_le _, rfl, ?o4⟩
          case e4 => exact rfl
          case o4 => simp
        case turn4 =>
          rintro k4 h4 tk4 m4 htk4 ⟨o, t4, rfl, ho, rfl, ho1⟩ F N E4
          refine absT fun Q4 R4 E4 hQ4 hR4 => ?_
          have ho7 : o ≤ 7 := Nat.le_trans ho (by decide)
          k_steps
          · rename Int.fmod _ _ = 1 => hq
            obtain ⟨ho3, hq1, hlt⟩ := on_true (hpm _ (List.mem_of_getElem? he9)).marks ho hq
            refine' hQ4 _ _ ⟨3 - (o + 1), hlt, _, _, _, rfl, (by first | assumption | exact Nat.le_add_left 1 _ | (dsimp only; omega)), ⟨o + 1, ?t8, ?e8, ho3, rfl, on_step ho3 ho1 hq1⟩, (by k_asm), (by k_asm)⟩
            case e8 =>
              have e1 : ((o : Nat) : Int) + 1 = ((o + 1 : Nat) : Int) := rfl
              rw [e1]
              exact set_set
          · rename Int.fmod _ _ ≠ 1 => hq
            exact hR4 _ (.mk _ _ _ rfl (by first | assumption | exact Nat.le_add_left 1 _ | (dsimp only; omega)) ⟨t4, by rw [on_end ho ho1 (.inr (on_false hq))]⟩ (by k_asm) (by k_asm))
        case done4 =>
          intro h5 tk5 m5 htk5 ⟨t6, hm5⟩ F5 N5
          generalize hO9 : ones1 3 e9.p.2.1 = o9 at hm5
          subst hm5
          k_steps
          unfold Hold
          (with_reducible refine' LCt.Assign_ListComp_T ?Fy2 ?Ly2 ?wy2 ?cy2 ?dy2 ?ky2 ?ny2 ?xy2 ?yy2 ?py2 ?_ ?sy2); (case Fy2 => k_asm); k_dflt ((case Ly2 => rfl); (case wy2 => with_unfolding_all rfl); (case cy2 => with_unfolding_all rfl); (case dy2 => decide); (case ky2 => rfl); (case ny2 => decide); (case xy2 => rfl); (case yy2 => rfl); (case py2 => rfl); (case sy2 => exact fun _ => rfl))
          k_steps
          rename IsRange _ _ _ _ _ _ _ _ => hr5
          rename News _ _ _ _ => N3
          refine LCt.CompSrcT.range (n := 7) (by exact rfl) (by k_asm) N3 hr5 (by decide) (by decide) (by decide) (fun g5 => ?_)
          refine restT_inv (HdJ run e9.p.1 _) ?hJS5 ⟨AreInts.nil, rfl⟩ ?turn5 ?fin5
          case hJS5 => intro _ _ _ _; trivial
          case turn5 =>
            rintro j zs nw v I2 oI2 C2 oC2 D2 m₂ h2' tk2 E2 hj ⟨hzs, rfl⟩ ⟨t5, rfl⟩ hO hmx F N off ne
            have hi0 : (0 : Int) + (j : Int) = (j : Int) := Int.zero_add _
            rw [hi0] at hmx
            have hes7 : es.map (·.d) = run := by rw [hes, hlr, ← hl7, List.take_length]
            have hel : es.length = 7 := by rw [← hl7, ← hes7, List.length_map]
            obtain ⟨e8, he8⟩ : ∃ e, es[j]? = some e := ⟨_, List.getElem?_eq_getElem (by omega)⟩
            have hmem8 : e8 ∈ es := List.mem_of_getElem? he8
            obtain ⟨lo8, hd8, _⟩ := hok _ hmem8
            have ho8 := k4 _ hmem8
            have hrj : run[j]? = some e8.d := by rw [← hes7, List.getElem?_map, he8]; rfl
            have hx9 : (tabRefs es)[((j : Int)).toNat]? = some (.ref e8.D) := tabRefs_at he8
            have hstep := hdN_succ (b := e9.p.1) hrj
            have hj7 : j ≤ 7 := Nat.le_of_lt hj
            refine absT fun Q4 R4 E4 hQ4 hR4 => ?_
            k_steps
            unfold Hold
            cases hn9 : nameAt (tabOf e8.d) (S [e9.p.1]) with
            | none =>
              rw [hn9, if_neg (by simp)] at hstep
              k_dflt (refine' Mine.names_in (by k_asm) (by k_ownIn) (by assumption) (by assumption) false (by rw [hn9]; rfl) ?_)
              k_steps
              refine hR4 _ ?_
              refine compEnd_same (by k_asm) (by k_asm) off ?_
              exact ⟨by rw [hstep, List.append_nil]; exact hzs, rfl⟩
            | some x =>
              rw [hn9, if_pos (by rfl)] at hstep
              k_dflt (refine' Mine.names_in (by k_asm) (by k_ownIn) (by assumption) (by assumption) true (by rw [hn9]; rfl) ?_)
              k_steps
              refine hQ4 _ _ ?_
              refine compEnd_same (by k_asm) (by k_asm) off ?_
              exact ⟨by rw [hstep, List.map_append]; exact hzs.snoc _ _, rfl⟩
          case fin5 =>
            rintro zs nw ⟨hzs, rfl⟩ D5 h5' tk5' F5' N5' off5
            rw [show ∀ xs : List Value, LCg.lst xs = listOf xs.toArray xs.length from fun _ => rfl] at N5'
            rw [show ∀ xs : List Value, LCg.lst xs = listOf xs.toArray xs.length from fun _ => rfl] at N5'
            dsimp only
            have hc7 : run.count 0 ≤ 7 := hl7 ▸ List.count_le_length
            have hyl := hys.length
            rw [List.length_map, show (7 : Nat) = run.length from hl7.symm, rdN_len] at hyl
            have hyz : ys.toArray.size = run.count 0 := by rw [List.size_toArray]; exact hyl
            have ho7 : o9 ≤ 7 := hO9 ▸ Nat.le_trans (ones1_le _ _) (by decide)
            have hpl := hpm _ (List.mem_of_getElem? he9)
            have hes7 : es.map (·.d) = run := by rw [hes, hlr, ← hl7, List.take_length]
            have hel : es.length ≤ 7 := by rw [← hl7, ← hes7, List.length_map]; exact Nat.le_refl _
            obtain ⟨m8, h8, s1, s2, s3, s4, s5, s6⟩ := td_len hl7 hrun hpl
            replace N5' := front3 N5'
            have hofT : ∀ p ∈ (D5, listOf zs.toArray zs.length) :: (e9.T, partO e9) :: (I, oI) :: _, p.1 ≠ _ := led_off N5' off5.2.2.1 (Nat.ne_of_lt (Nat.lt_trans hTl (Nat.lt_of_succ_lt (by assumption)))) (Ne.symm (offI _ (.head _))) (Nat.ne_of_lt (by assumption)) (Nat.ne_of_lt (by assumption)) (Nat.ne_of_lt (by assumption)) (Nat.ne_of_lt (by assumption)) (Nat.ne_of_lt (by assumption)) (by assumption)
            have hl5 : ((ps.take i).map (·.p)).length ≤ 5 := by rw [List.length_map, List.length_take]; omega
            refine told_if run ((ps.take i).map (·.p)) e9.p F5' N5' ?if5 ?rest5
            case if5 =>
              intro Q5 E5 hQ5
              by_cases hi0 : i = 0
              · subst hi0
                have hx0 : xs = [] := List.map_eq_nil_iff.mp hxs
                subst hx0
                --[z
                k_steps
                unfold Hold
                k_dflt (refine' Mine.eq_none (by k_asm) (by k_mem) (by k_mem) (by ktr_units) ?_)
                k_steps
                unfold Hold
                k_dflt (refine' Mine.appS0 (by k_asm) (by k_asm) (by k_upd) ?_; k_whole); intro _ _ _
                k_steps
                rename News _ _ _ _ => NX
                refine hQ5 _ ?_
                exact .mk _ _ [] [] [] _ 0 _ _ rfl (by first | assumption | exact Nat.le_add_left 1 _ | (dsimp only; omega)) rfl (by k_asm) (fun p hp => NX p (by first | exact hp | exact .tail _ hp | exact .tail _ (.tail _ hp) | exact .tail _ (.tail _ (.tail _ hp)))) (tdPre_first run e9.p)
                --]z
              · have hne : (ps.take i).map (·.p) ≠ [] := by
                  cases ps with
                  | nil => exact absurd rfl hps
                  | cons q r =>
                    cases i with
                    | zero => exact absurd rfl hi0
                    | succ i => exact List.cons_ne_nil _ _
                obtain ⟨W9, w9, hW⟩ := wordsP_last run hne
                obtain ⟨xs0, t9, rfl, hxs0⟩ : ∃ xs0 t, xs = xs0 ++ [(S w9, t)] ∧ xs0.map (·.1) = W9.map S := by
                  rw [hW, List.map_append] at hxs
                  obtain ⟨a, b, rfl, h1, h2⟩ := List.map_eq_append_iff.mp hxs
                  obtain ⟨⟨x, t⟩, rfl, h3⟩ := List.map_eq_singleton_iff.mp h2
                  exact ⟨a, t, by cases h3; rfl, h1⟩
                have hw9 := (wordsP_gd (by omega) hrun (l := (ps.take i).map (·.p)) (by
                  intro p hp
                  obtain ⟨e, he, rfl⟩ := List.mem_map.mp hp
                  exact hpm e (List.mem_of_mem_take he)) w9 (by rw [hW]; exact List.mem_append_right _ (.head _))).len
                have hxl : xs0.length ≤ 5 := by
                  have e1 := congrArg List.length hxs0
                  have e2 := wordsP_len run ((ps.take i).map (·.p))
                  rw [hW, List.length_append, List.length_singleton] at e2
                  rw [List.length_map, List.length_map] at e1
                  exact e1 ▸ Nat.le_trans (Nat.le_of_succ_le e2) hl5
                have hw1k : w9.length ≤ 1000 := Nat.le_trans hw9 (Nat.le_trans (Nat.mul_le_mul_left 100 hl5) (by decide))
                rw [show strValues (xs0 ++ [(S w9, t9)]) = strValues xs0 ++ [Value.str (S w9) t9] by simp [strValues]] at N5'
                k_steps
                unfold Hold
                k_dflt (refine' Mine.eq_some (by k_asm) (by k_mem) (by k_mem) (by simp) (by ktr_units) ?_)
                k_steps
                unfold Hold
                cases hq : (rdN run run.length)[o9]? with
                | none =>
                  have hlt1 : ¬ ((o9 : Nat) : Int) < ((run.count 0 : Nat) : Int) := by
                    have := List.getElem?_eq_none_iff.mp hq
                    rw [rdN_len] at this
                    exact fun h => absurd (Int.ofNat_lt.mp h) (Nat.not_lt.mpr this)
                  have hcn := cut_no (b := e9.p.1) hpl.marks (fun i h => by rw [hO9, hq] at h; cases h)
                  --[a
                  k_dflt (refine' Mine.ltF hlt1 ?_)
                  k_steps
                  unfold Hold
                  k_dflt (refine' Mine.ct_useA (Mine.ct_spelledR _ _ _ _ _ _ _ _ ?hrz2 ?h7z2 ?hokz2 ?h1z2 ?h2z2) trivial ?_; (case hrz2 => with_reducible assumption); (case h7z2 => with_reducible assumption); (case hokz2 => with_reducible assumption); (case h1z2 => k_mem); (case h2z2 => k_allIn); k_whole; intro r9 h' tk' n9 F' N' htk' hp9; obtain ⟨⟨t9, e1⟩, e2⟩ := hp9; subst e1; subst e2; (try k_sweep))
                  k_steps
                  rename News _ _ _ _ => NX
                  refine hQ5 _ ?_
                  exact .mk _ _ xs0 W9 _ _ 7 _ _ rfl (by first | assumption | exact Nat.le_add_left 1 _ | (dsimp only; omega)) hxs0 (by k_asm) (fun p hp => NX p (by first | exact hp | exact .tail _ hp | exact .tail _ (.tail _ hp) | exact .tail _ (.tail _ (.tail _ hp)))) (tdPre_on hne hW hcn hl7 hrun hpl hw9)
                  --]a
                | some i9 =>
                  have hi9 := (List.getElem?_eq_some_iff.mp hq).1
                  rw [rdN_len] at hi9
                  have hlt1 : ((o9 : Nat) : Int) < ((run.count 0 : Nat) : Int) := Int.ofNat_lt.mpr hi9
                  obtain ⟨u9, hy9⟩ := hys.at (i := o9) (n := ((i9 : Nat) : Int)) (by rw [List.getElem?_map, show (7 : Nat) = run.length from hl7.symm, hq]; rfl)
                  have hx9 : ys[((o9 : Nat) : Int).toNat]? = some (.int ((i9 : Nat) : Int) u9) := hy9
                  k_dflt (refine' Mine.ltT hlt1 ?_)
                  k_steps
                  unfold Hold
                  k_dflt (refine' Mine.addHides (by k_asm) (by k_asm) (by k_mem) (by k_mem) (by with_reducible assumption) ?_); intro _ _ _ _ _ l1 _; (try k_lt l1); (try k_sweep)
                  k_steps
                  unfold Hold
                  k_dflt (refine' Mine.minFh (by k_asm) (by k_asm) (by k_mem) (by with_reducible assumption) (by with_reducible assumption) (by with_unfolding_all rfl) ?_; k_whole); intro _ _ _ _ _; (try k_sweep)
                  k_steps
                  unfold Hold
                  by_cases hf9 : i9 < fh e9.p.1 run
                  · have hlt2 : ((i9 : Nat) : Int) < ((fh e9.p.1 run : Nat) : Int) := Int.ofNat_lt.mpr hf9
                    have hcy := cut_yes hpl.marks (by rw [hO9]; exact hq) hf9
                    --[b
                    k_dflt (refine' Mine.ltT hlt2 ?_)
                    k_steps
                    unfold Hold
                    k_dflt (refine' Mine.appS2 (by k_asm) (by k_asm) (by k_upd) (by with_reducible assumption) ?_; k_whole); intro _ _ _
                    k_steps
                    rename News _ _ _ _ => NX
                    refine hQ5 _ ?_
                    exact TdIf.two hxs0 (by first | assumption | exact Nat.le_add_left 1 _ | (dsimp only; omega)) (by k_asm) (by rename News _ _ _ _ => NX; exact (fun p hp => NX p (by first | exact hp | exact .tail _ hp | exact .tail _ (.tail _ hp) | exact .tail _ (.tail _ (.tail _ hp))))) (tdPre_cut hne hW hcy (hl7 ▸ Nat.le_of_lt (cut_lt _ _ _ _ hcy)))
                    --]b
                  · have hlt2 : ¬ ((i9 : Nat) : Int) < ((fh e9.p.1 run : Nat) : Int) := fun h => hf9 (Int.ofNat_lt.mp h)
                    have hcn := cut_no (b := e9.p.1) hpl.marks (fun i h => by rw [hO9, hq] at h; cases h; exact hf9)
                    --[c
                    k_dflt (refine' Mine.ltF hlt2 ?_)
                    k_steps
                    unfold Hold
                    k_dflt (refine' Mine.ct_useA (Mine.ct_spelledR _ _ _ _ _ _ _ _ ?hrz3 ?h7z3 ?hokz3 ?h1z3 ?h2z3) trivial ?_; (case hrz3 => with_reducible assumption); (case h7z3 => with_reducible assumption); (case hokz3 => with_reducible assumption); (case h1z3 => k_mem); (case h2z3 => k_allIn); k_whole; intro r9 h' tk' n9 F' N' htk' hp9; obtain ⟨⟨t9, e1⟩, e2⟩ := hp9; subst e1; subst e2; (try k_sweep))
                    k_steps
                    rename News _ _ _ _ => NX
                    refine hQ5 _ ?_
                    exact .mk _ _ xs0 W9 _ _ 7 _ _ rfl (by first | assumption | exact Nat.le_add_left 1 _ | (dsimp only; omega)) hxs0 (by k_asm) (fun p hp => NX p (by first | exact hp | exact .tail _ hp | exact .tail _ (.tail _ hp) | exact .tail _ (.tail _ (.tail _ hp)))) (tdPre_on hne hW hcn hl7 hrun hpl hw9)
                    --]c
            case rest5 =>
              rintro s5 ⟨h6, tk6, xs6, W6, pr6, t6', a6, ta6, c6, rfl, htk6, hx6, F6, N6, hp6⟩
              obtain ⟨d1, d2, d3, d4⟩ := td_dot hl7 hpl hl5 hp6
              have hrz : rv.length ≤ 1000 := hlr ▸ (by decide)
              k_steps
              unfold Hold
              k_dflt (refine' Mine.dropW (by k_asm) (by k_asm) (by k_ownIn) (by exact rfl) (by with_reducible assumption) ?_; k_whole); intro _ _ _ _ l1; (try k_lt l1); (try k_sweep)
              k_steps
              unfold Hold
              k_dflt (refine' Mine.countC ?hy4 ?Ny4 ?my4 ?_; (case Ny4 => k_asm); (case my4 => k_mem); (case hy4 => with_reducible assumption); k_whole)
              k_steps
              unfold Hold
              k_dflt (refine' Mine.ct_useA (Mine.ct_spelledR _ _ _ _ _ _ _ _ ?hrz4 ?h7z4 ?hokz4 ?h1z4 ?h2z4) trivial ?_; (case hrz4 => with_reducible assumption); (case h7z4 => with_reducible assumption); (case hokz4 => with_reducible assumption); (case h1z4 => k_mem); (case h2z4 => k_allIn); k_whole; intro r9 h' tk' n9 F' N' htk' hp9; obtain ⟨⟨t9, e1⟩, e2⟩ := hp9; subst e1; subst e2; (try k_sweep))
              k_steps
              rename News _ _ _ _ => NX
              rename Fr _ _ _ _ => FX
              refine hQ' _ _ ?_
              refine' td_turn FX NX ?zt rfl rfl ?zo ?_ offI (.tail _ (.tail _ (.tail _ (.tail _ k2))))
              case zt => assumption
              case zo => assumption
              rw [List.take_add_one, he9, List.map_append, hx6]
              show _ = (wordsP run ((ps.take i).map (·.p) ++ [e9.p])).map S
              rw [hp6.eq, List.map_append]
              unfold seg
              simp only [List.append_assoc]
              rfl
      case done6 =>
        rintro h9 tk9 m9 news9 htk9 ⟨xs, c9, ob, v₀, g1, g2, hxs, rfl, hob⟩ F N
        replace F := Fr_ch2 "told" "readings" F g1 g2
        k_steps
        rename News h₀ L _ _ => N5
        rw [show (partRefs ps).length = ps.length by simp [partRefs], List.take_length] at hxs
        unfold wordsP at hxs
        rw [if_neg (by simpa using hps)] at hxs
        refine hret _ _ _ ((_, listOf (strValues xs).toArray c9) :: own) (by k_asm) (fun p hp => N5 p (by
          rcases List.mem_cons.mp hp with rfl | hp
          · exact .head _
          · exact .tail _ (.tail _ (.tail _ (.tail _ (.tail _ (.tail _ (hsub _ hp)))))))) (by assumption) ⟨_, xs, c9, rfl, hxs, rfl⟩
end Mine
end STo2
section SLa2
namespace Mine
theorem fresh19 : True := by
  w_top off
  trivial
end Mine
open PySem PySem.W PyProof.Rows PySem.Calls
set_option Elab.async false
set_option maxRecDepth 100000
set_option maxHeartbeats 8000000
set_option pp.maxSteps 400
set_option autoImplicit false
local macro_rules | `(tactic| walk_at "subscriptTail Name Slice ref ref") => `(tactic| (refine Mine.Hold.out ?_))
namespace Mine
/-- a deed by its number -/
def deedOf (n : Nat) : Nat := [0, 1, 0, 1, 0, 2, 3, 4, 5, 6].getD (n % 10) 0
theorem deedOf_lt (n : Nat) : deedOf n < 7 := by
  unfold deedOf
  have h : n % 10 < 10 := Nat.mod_lt _ (by decide)
  generalize n % 10 = i at h
  have key : ∀ i : Nat, i < 10 → [0, 1, 0, 1, 0, 2, 3, 4, 5, 6].getD i 0 < 7 := by decide
  exact key i h
theorem deed_getD (n : Nat) : ([0, 1, 0, 1, 0, 2, 3, 4, 5, 6] : List Int).getD (((n : Nat) : Int).fmod 10).toNat 0 = ((deedOf n : Nat) : Int) := by
  rw [show ((n : Nat) : Int).fmod 10 = ((n % 10 : Nat) : Int) from fmn n 10, Int.toNat_natCast]
  unfold deedOf
  have h : n % 10 < 10 := Nat.mod_lt _ (by decide)
  generalize n % 10 = i at h
  have key : ∀ i : Nat, i < 10 → ([0, 1, 0, 1, 0, 2, 3, 4, 5, 6] : List Int).getD i 0 = (([0, 1, 0, 1, 0, 2, 3, 4, 5, 6].getD i 0 : Nat) : Int) := by decide
  exact key i h
end Mine
namespace Mine
section
variable {w : World} {p : Program} {loose : List Str} {mean : ExcName → Option Value} {mg mb : Str → Option Value} {dp un : Nat} {gd : Option (List Code)} {outer : List Env} {A₀ : Around} {base h₀ : Heap} {L : Addr} {s : Shared} {E : Value → Shared → Prop} {Q : Flow → Shared → Prop} {m : PySem.Str → Option Value} {sc : Scope} {st : Stmt} {qn : PySem.Str} {a : Addr} {cd : Value}
abbrev RunJ (ns : List Nat) (base : List (Addr × Obj)) (i : Nat) (zs : List Value) (nw : List (Addr × Obj)) : Prop := AreInts zs ((ns.take i).map fun n : Nat => ((deedOf n : Nat) : Int)) ∧ nw = base
theorem sRun (hst : lawSt PySem.Challenge.rw_rw0051_02.row.prog 2 = some (sc, st)) {ND : Addr} {c : Nat} {ys : List Value} {ns : List Nat} (hys : AreInts ys (ns.map fun n : Nat => (n : Int))) (hz : ys.length ≤ 1000) {own : List (Addr × Obj)} (hm : (ND, listOf ys.toArray c) ∈ own)
    (F : Fr h₀ L s.heap m) (N : News h₀ L s.heap own) (B : Below A₀ base outer h₀) (X : (hd.heap_39 w.params).In h₀) (T9 : Top p loose mean mg mb h₀) (hdp : dp + 160 < recursionLimit) (hu : un + 1600 < cLine) (ht : 1 ≤ s.toks) (h1 : m ("numbers" : PySem.Str) = some (.ref ND))
    (hret : ∀ h' tk' RL rv c', 1 ≤ tk' → AreInts rv ((ns.take 7).map fun n : Nat => ((deedOf n : Nat) : Int)) → Fr h₀ L h' (fun y => if y = ("run" : PySem.Str) then some (.ref RL) else m y) → News h₀ L h' ((RL, listOf rv.toArray c') :: own) → Q .next { s with heap := h', toks := tk' }) :
    wpAny (model PySem.Challenge.rw_rw0051_02.row.prog w) (cT dp un gd (envOfC qn sc L a cd) outer) (exec st (envOfC qn sc L a cd)) Q E s := by
  have e : lawSt PySem.Challenge.rw_rw0051_02.row.prog 2 = some (_, _) := rfl
  rw [e] at hst
  cases hst
  clear e
  revert X
  k_fill
  intro X
  have hch : chain [(("numbers" : PySem.Str), .ref ND)] m = m := chain_eq (by simp only [List.forall_mem_cons]; exact ⟨h1, fun _ h => nomatch h⟩)
  rw [← hch] at F hret
  dsimp only [chain] at F hret
  refine wpAny_with_toks (n := 1) ht ?_
  k_steps
  unfold Hold
  k_dflt (refine' Mine.takeW (b := 7) (by k_asm) (by k_asm) (by k_ownIn) (by with_reducible assumption) ?_)
  intro D9 h9 F9 N9 l9
  refine' compAt_list (vs := ys.take 7) (RunJ (ns.take 7) ((D9, listOf (ys.take 7).toArray 0) :: own)) ?hh ?F N9 ?hm ?hsz ?hj ?turn ?fin
  case hh => exact rfl
  case F => k_asm
  case hm => exact .head _
  case hsz => rw [sizeLine_eq, List.length_take]; omega
  case hj => exact ⟨by rw [List.take_zero]; exact AreInts.nil, rfl⟩
  case turn =>
    rintro i zs nw v I oI C oC D m₂ h tk g E' ⟨hzs, rfl⟩ hm9 hv hO hmx F N off ne
    have hi7 : i < 7 := by
      rcases Nat.lt_or_ge i 7 with h | h
      · exact h
      · rw [List.getElem?_eq_none (by rw [List.length_take]; omega)] at hv; cases hv
    rw [List.getElem?_take_of_lt hi7] at hv
    obtain ⟨d9, t9, hd9, rfl⟩ := ints_at hys hv
    k_steps
    exact compEnd_drop (by k_asm) (by k_asm) off ⟨⟨by rw [List.take_add_one, List.getElem?_take_of_lt hi7, hd9, List.map_append, deed_getD]; exact hzs.snoc _ _, rfl⟩, .head _⟩
  case fin =>
    rintro g zs nw ⟨hzs, rfl⟩ D₂ h tk F N off ht'
    refine hret _ _ _ _ _ ht' ?_ F (fun p hp => N p (by
      rcases List.mem_cons.mp hp with rfl | hp
      · exact .head _
      · exact .tail _ (.tail _ hp)))
    rw [List.length_take] at hzs
    have e : (ns.take 7).take (min 7 ys.length) = ns.take 7 := by
      rw [List.take_take]
      have := hys.length
      rw [List.length_map] at this
      rw [this, Nat.min_comm 7 ns.length, Nat.min_assoc, Nat.min_self, Nat.min_comm, List.take_eq_take_iff]
      omega
    rw [e] at hzs
    exact hzs
end
end Mine
end SLa2
section SLb2
namespace Mine
theorem fresh20 : True := by
  w_top off
  trivial
end Mine
open PySem PySem.W PyProof.Rows PySem.Calls
set_option Elab.async false
set_option maxRecDepth 100000
set_option maxHeartbeats 8000000
set_option pp.maxSteps 400
set_option autoImplicit false
local macro_rules | `(tactic| walk_at "subscriptTail Name Slice ref ref") => `(tactic| (refine Mine.Hold.out ?_))
local macro_rules | `(tactic| walk_at "call ref") => `(tactic| (refine Mine.Hold.out ?_))
namespace Mine
def partLed (es : List PartE) : List (Addr × Obj) := es.map fun e => (e.T, partO e)
theorem parts_end {h₀ h' : Heap} {L I C D T : Addr} {m : PySem.Str → Option Value} {s₁ : Shared} {oI oC oD oT : Obj} {tk : Nat} {x1 : Addr × Obj} {bs : List (Addr × Obj)} {rest : Value → List (Addr × Obj) → Prop}
    (F : Fr h₀ L h' m) (N : News h₀ L h' ((T, oT) :: (I, oI) :: (C, oC) :: (D, oD) :: x1 :: bs)) (off : LCg.Off3 I C D (x1 :: bs)) (hal : AllLt T ((I, oI) :: (C, oC) :: (D, oD) :: x1 :: bs)) (r : rest (.ref T) (x1 :: (T, oT) :: bs)) :
    LCg.CompEnd h₀ L m s₁ I oI C oC D oD (fun _ => True) rest (.ref T) { s₁ with heap := h', toks := tk } := by
  have hI : T ≠ I := Nat.ne_of_gt hal.1
  have hC : T ≠ C := Nat.ne_of_gt hal.2.1
  have hD : T ≠ D := Nat.ne_of_gt hal.2.2.1
  refine LCg.CompEnd.intro F N (x1 :: (T, oT) :: bs) (fun p hp => ?_) (show LCg.Off3 I C D (x1 :: (T, oT) :: bs) from ⟨off.1, ⟨hI, hC, hD⟩, off.2⟩) trivial r
  iterate 4 (rcases List.mem_cons.mp hp with rfl | hp; · (repeat first | exact List.Mem.head _ | refine List.Mem.tail _ ?_))
  rcases List.mem_cons.mp hp with rfl | hp
  · exact .head _
  · (repeat first | exact hp | refine List.Mem.tail _ ?_)
def PartJ (ns : List Nat) (own : List (Addr × Obj)) (x1 : Addr × Obj) (i : Nat) (zs : List Value) (nw : List (Addr × Obj)) : Prop :=
  ∃ es : List PartE, zs = partRefs es ∧ es.map (·.p) = (ns.take i).map ptOf ∧ nw = x1 :: (partLed es.reverse ++ own)
theorem partJ_step {ns : List Nat} {own : List (Addr × Obj)} {x1 : Addr × Obj} {i n : Nat} {es : List PartE} {T : Addr} {t1 t2 t3 t4 t5 : Tok} (hes : es.map (·.p) = (ns.take i).map ptOf) (hn : ns[i]? = some n) :
    PartJ ns own x1 (i + 1) (partRefs es ++ [.ref T]) (x1 :: (T, partObj (ptOf n) t1 t2 t3 t4 t5) :: (partLed es.reverse ++ own)) := by
  refine ⟨es ++ [⟨T, ptOf n, t1, t2, t3, t4, t5⟩], ?_, ?_, ?_⟩
  · unfold partRefs; rw [List.map_append]; rfl
  · rw [List.map_append, hes, List.take_add_one, hn, List.map_append]; rfl
  · rw [List.reverse_append]; rfl
section
variable {w : World} {p : Program} {loose : List Str} {mean : ExcName → Option Value} {mg mb : Str → Option Value} {dp un : Nat} {gd : Option (List Code)} {outer : List Env} {A₀ : Around} {base h₀ : Heap} {L : Addr} {s : Shared} {E : Value → Shared → Prop} {Q : Flow → Shared → Prop} {m : PySem.Str → Option Value} {sc : Scope} {st : Stmt} {qn : PySem.Str} {a : Addr} {cd : Value}
theorem sParts (hst : lawSt PySem.Challenge.rw_rw0051_02.row.prog 3 = some (sc, st)) {ND : Addr} {c : Nat} {ys : List Value} {ns : List Nat} (hys : AreInts ys (ns.map fun n : Nat => (n : Int))) (hns : ∀ n ∈ ns, n < 1000000000) (hz : ys.length ≤ 1000) {own : List (Addr × Obj)} (hm : (ND, listOf ys.toArray c) ∈ own)
    (F : Fr h₀ L s.heap m) (N : News h₀ L s.heap own) (B : Below A₀ base outer h₀) (X : (hd.heap_39 w.params).In h₀) (T9 : Top p loose mean mg mb h₀) (hdp : dp + 160 < recursionLimit) (hu : un + 1600 < cLine) (ht : 1 ≤ s.toks) (h1 : m ("numbers" : PySem.Str) = some (.ref ND))
    (hret : ∀ h' tk' PL es c', 1 ≤ tk' → es.map (·.p) = (ns.drop 7).map ptOf → Fr h₀ L h' (fun y => if y = ("parts" : PySem.Str) then some (.ref PL) else m y) → News h₀ L h' ((PL, listOf (partRefs es).toArray c') :: (partLed es.reverse ++ own)) → Q .next { s with heap := h', toks := tk' }) :
    wpAny (model PySem.Challenge.rw_rw0051_02.row.prog w) (cT dp un gd (envOfC qn sc L a cd) outer) (exec st (envOfC qn sc L a cd)) Q E s := by
  have e : lawSt PySem.Challenge.rw_rw0051_02.row.prog 3 = some (_, _) := rfl
  rw [e] at hst
  cases hst
  clear e
  revert X
  k_fill
  intro X
  have hch : chain [(("numbers" : PySem.Str), .ref ND)] m = m := chain_eq (by simp only [List.forall_mem_cons]; exact ⟨h1, fun _ h => nomatch h⟩)
  rw [← hch] at F hret
  dsimp only [chain] at F hret
  refine wpAny_with_toks (n := 1) ht ?_
  k_steps
  unfold Hold
  k_dflt (refine' Mine.dropW (a := 7) (by k_asm) (by k_asm) (by k_ownIn) rfl (by with_reducible assumption) ?_)
  intro D9 h9 F9 N9 l9
  refine' compAt_list (vs := ys.drop 7) (PartJ (ns.drop 7) own (D9, listOf (ys.drop 7).toArray 0)) ?hh ?F N9 ?hm ?hsz ?hj ?turn ?fin
  case hh => exact rfl
  case F => k_asm
  case hm => exact .head _
  case hsz => rw [sizeLine_eq, List.length_drop]; omega
  case hj => exact ⟨[], rfl, rfl, rfl⟩
  case turn =>
    rintro i zs nw v I oI C oC D m₂ h tk g E' ⟨es, rfl, hes, rfl⟩ hm9 hv hO hmx F N off ne
    rw [List.getElem?_drop] at hv
    obtain ⟨d9, t9, hd9, rfl⟩ := ints_at hys hv
    have hd7 := hns _ (List.mem_of_getElem? hd9)
    k_steps
    unfold Hold
    k_dflt (refine' Mine.ct_use0 (Mine.ct_part0 _ _ _ ?hd7z1 _) (by k_asm) (by k_asm) (by k_asm) (by k_asm) (by k_asm) (by exact rfl) (by exact rfl) (by ktr_room) (by ktr_units) trivial ?_; (case hd7z1 => assumption); k_whole; intro _ _ _ _ _ _ _ hp9; obtain ⟨_, _, _, _, _, _, e1, _, e2⟩ := hp9; subst e1; subst e2; (try k_sweep))
    k_steps
    exact parts_end (by k_asm) (by k_asm) off (by assumption) ⟨partJ_step hes (by rw [List.getElem?_drop]; exact hd9), .head _⟩
  case fin =>
    rintro g zs nw ⟨es, rfl, hes, rfl⟩ D₂ h tk F N off ht'
    refine hret _ _ _ es _ ht' ?_ F (fun p hp => N p (by
      rcases List.mem_cons.mp hp with rfl | hp
      · exact .head _
      · exact .tail _ (.tail _ hp)))
    have := hys.length
    rw [List.length_map] at this
    rw [hes, List.take_of_length_le (by rw [List.length_drop, List.length_drop]; omega)]
end
end Mine
end SLb2
end WalkC
section SLc2
local macro_rules | `(tactic| walk_at "z") => `(tactic| skip)
namespace Mine
theorem fresh21 : True := by
  w_top off
  trivial
end Mine
open PySem PySem.W PyProof.Rows PySem.Calls
set_option Elab.async false
set_option maxRecDepth 100000
set_option maxHeartbeats 8000000
set_option pp.maxSteps 400
set_option autoImplicit false
namespace Mine
section
variable {prog : Program} {w : World} {A : Around} {E : Value → Shared → Prop} {s : Shared} {t u : Tok} {Q : Value → Shared → Prop}
theorem neT {x : List Nat} (h : x ≠ []) (k : Q (.bool true) s) : wpAny (model prog w) A (compareOp .NotEq (.str (S x) t) (.str (PySem.Str.ofString "") u)) Q E s :=
  PySem.P.ne_str (by
    have e : ((S x).cps.toList != (PySem.Str.ofString "").cps.toList) = true := by
      have e2 : (PySem.Str.ofString "").cps.toList = [] := by decide
      rw [e2]
      cases x with
      | nil => exact absurd rfl h
      | cons a r => rfl
    rw [e]; exact k)
theorem neF (k : Q (.bool false) s) : wpAny (model prog w) A (compareOp .NotEq (.str (S []) t) (.str (PySem.Str.ofString "") u)) Q E s :=
  PySem.P.ne_str (by
    have e : ((S []).cps.toList != (PySem.Str.ofString "").cps.toList) = false := by decide
    rw [e]; exact k)
theorem mulB1 {k : Nat} (ht : 1 ≤ s.toks) (hk : k ≤ 100) (h : ∀ t' tk, 1 ≤ tk → Q (.str (S (bsl k)) t') { s with toks := tk }) : wpAny (model prog w) A (binaryOp .Mult (.str (PySem.Str.ofString "\\") t) (.int ((k : Nat) : Int) u)) Q E s :=
  mulT ht (by decide) hk (mul_bs _) h
end
end Mine
local macro_rules | `(tactic| walk_at "compareOp NotEq str str") => `(tactic| (k_here; k_dflt (first | (refine' Mine.neT (by with_reducible assumption) ?_; k_whole) | (refine' Mine.neF ?_; k_whole))))
local macro_rules | `(tactic| walk_at "binaryOp Mult str int") => `(tactic| (k_here; (with_reducible show wpAny _ _ (binaryOp _ (Value.str (PySem.Str.ofString "\\") _) _) _ _ _); k_dflt (refine' Mine.mulB1 (by k_all) (by with_reducible assumption) ?_; k_whole); intro _ _ _))
local macro_rules | `(tactic| walk_at "binaryOp Mult str int") => `(tactic| (k_here; (with_reducible show wpAny _ _ (binaryOp _ (Value.str (PySem.Str.ofString ".") _) _) _ _ _); k_dflt (refine' Mine.mulDt (by k_all) (by with_reducible assumption) ?_; k_whole); intro _ _ _))
local macro_rules | `(tactic| walk_at "binaryOp Add str str") => `(tactic| (k_here; k_dflt (refine' Mine.addM (by k_all) (by with_reducible assumption) (by with_reducible assumption) ?_; k_whole); intro _ _ _))
local macro_rules | `(tactic| walk_at "inplaceOp Add str str") => `(tactic| (k_here; k_dflt (refine' Mine.iaddM (by k_all) (by with_reducible assumption) (by with_reducible assumption) ?_; k_whole); intro _ _ _))
local macro_rules | `(tactic| walk_at "execs nil") => `(tactic| (k_here; with_reducible refine wpAny_execs_nil ?_))
namespace Mine
/-- how long the pieces of the text are -/
structure TxLen (p : Pt) (w : List Nat) : Prop where
  (m8 : p.2.1 ≤ 100)
  (d1 : p.2.2.1 ≤ 100)
  (h8 : p.2.2.2.1 ≤ 100)
  (s0 : w.length ≤ 1000)
  (s1 : (bsl p.2.1).length ≤ 1000)
  (s2 : [p.1].length ≤ 1000)
  (s3 : (bsl p.2.1 ++ [p.1]).length ≤ 1000)
  (s4 : (w ++ (bsl p.2.1 ++ [p.1])).length ≤ 1000)
  (s5 : (dts p.2.2.1).length ≤ 1000)
  (s6 : (bsl p.2.2.2.1).length ≤ 1000)
  (s7 : (dts p.2.2.1 ++ bsl p.2.2.2.1).length ≤ 1000)
  (s8 : [p.2.2.2.2].length ≤ 1000)
  (s9 : (dts p.2.2.1 ++ bsl p.2.2.2.1 ++ [p.2.2.2.2]).length ≤ 1000)
  (sn : ([] : List Nat).length ≤ 1000)
theorem tx_len {p : Pt} {w : List Nat} (hp : PtLe p) (hw : w.length ≤ 100) : TxLen p w := by
  have h1 := hp.marks
  have h2 := hp.dots
  have h3 := hp.hidden
  have a1 : (bsl p.2.1).length ≤ 7 := by unfold bsl; rw [List.length_replicate]; omega
  have a2 : (bsl p.2.2.2.1).length ≤ 7 := by unfold bsl; rw [List.length_replicate]; omega
  have a3 : (dts p.2.2.1).length ≤ 7 := by unfold dts; rw [List.length_replicate]; omega
  constructor
  all_goals ((try simp only [List.length_append, List.length_cons, List.length_nil]); omega)
def txtNames : List PySem.Str := ["blank", "marks", "dots", "hidden", "sign", "text"]
def TxJ (l : List Pt) (m : PySem.Str → Option Value) (own : List (Addr × Obj)) (i : Nat) (m' : PySem.Str → Option Value) (nw : List (Addr × Obj)) : Prop := AgOff txtNames m m' ∧ (∃ t, m' ("text" : PySem.Str) = some (.str (S (txtL (l.take i))) t)) ∧ nw = own
section
variable {w : World} {p : Program} {loose : List Str} {mean : ExcName → Option Value} {mg mb : Str → Option Value} {dp un : Nat} {gd : Option (List Code)} {outer : List Env} {A₀ : Around} {base h₀ : Heap} {L : Addr} {s : Shared} {E : Value → Shared → Prop} {Q : Flow → Shared → Prop} {m : PySem.Str → Option Value} {sc : Scope} {st : Stmt} {qn : PySem.Str} {a : Addr} {cd : Value}
theorem sText (hst : lawSt PySem.Challenge.rw_rw0051_02.row.prog 5 = some (sc, st)) {PL : Addr} {c : Nat} {ps : List PartE} (hlp : ps.length ≤ 5) (hpm : ∀ e ∈ ps, PtLe e.p) {own : List (Addr × Obj)} (hm : (PL, listOf (partRefs ps).toArray c) ∈ own) (h3 : ∀ e ∈ ps, (e.T, partO e) ∈ own)
    (F : Fr h₀ L s.heap m) (N : News h₀ L s.heap own) (B : Below A₀ base outer h₀) (X : (hd.heap_39 w.params).In h₀) (T9 : Top p loose mean mg mb h₀) (hdp : dp + 160 < recursionLimit) (hu : un + 1600 < cLine) (ht : 1 ≤ s.toks) (h1 : m ("parts" : PySem.Str) = some (.ref PL)) {t0 : Tok} (h2 : m ("text" : PySem.Str) = some (.str (S []) t0))
    (hret : ∀ h' tk' m' t, 1 ≤ tk' → Fr h₀ L h' m' → AgOff txtNames m m' → m' ("text" : PySem.Str) = some (.str (S (txtL (ps.map (·.p)))) t) → News h₀ L h' own → Q .next { s with heap := h', toks := tk' }) :
    wpAny (model PySem.Challenge.rw_rw0051_02.row.prog w) (cT dp un gd (envOfC qn sc L a cd) outer) (exec st (envOfC qn sc L a cd)) Q E s := by
  have e : lawSt PySem.Challenge.rw_rw0051_02.row.prog 5 = some (_, _) := rfl
  rw [e] at hst
  cases hst
  clear e
  revert X
  k_fill
  intro X
  have hch := AgOff.ch2 (xs := txtNames) h1 h1
  replace F := Fr_ch2 "parts" "parts" F h1 h1
  refine forWT (by k_asm) ht (fun _ => rfl) ?_
  k_steps
  intro ht9
  refine' forAt_list (vs := partRefs ps) (TxJ (ps.map (·.p)) m own) ?hh ?F ?N hm ?ht ?hj ?turn ?done
  case hh => exact rfl
  case F => k_asm
  case N => k_asm
  case ht => exact ht9
  case hj => exact ⟨hch, ⟨t0, h2⟩, rfl⟩
  case turn =>
    rintro I oI i v m₁ news₁ h tk E' hI hv ⟨hag, ⟨t3, hx3⟩, rfl⟩ hlI htk F N off
    unfold partRefs at hv
    rw [List.getElem?_map] at hv
    obtain ⟨e9, he9, rfl⟩ : ∃ e, ps[i]? = some e ∧ v = .ref e.T := by
      cases hq : ps[i]? with
      | none => rw [hq] at hv; cases hv
      | some e => rw [hq] at hv; cases hv; exact ⟨e, rfl, rfl⟩
    have hT9 := h3 _ (List.mem_of_getElem? he9)
    have hpl := hpm _ (List.mem_of_getElem? he9)
    replace N : News _ _ _ ((e9.T, partO e9) :: (I, oI) :: _) := fun p hp => by
      rcases List.mem_cons.mp hp with rfl | hp
      · exact N _ (.tail _ hT9)
      · exact N p hp
    have hw5 := (txtL_gd ((ps.map (·.p)).take i) (fun p hp => by
      obtain ⟨e, he, rfl⟩ := List.mem_map.mp (List.mem_of_mem_take hp)
      exact hpm e he)).len
    have hl5 : ((ps.map (·.p)).take i).length ≤ 5 := by rw [List.length_take, List.length_map]; omega
    have hsn : txtL ((ps.map (·.p)).take (i + 1)) = stepT (txtL ((ps.map (·.p)).take i)) e9.p := by
      rw [List.take_add_one, List.getElem?_map, he9]; exact txtL_snoc _ _
    have hw100 := Nat.le_trans hw5 (Nat.le_trans (Nat.mul_le_mul_left 20 hl5) (by decide : 20 * 5 ≤ 100))
    generalize txtL ((ps.map (·.p)).take i) = w9 at hx3 hw100 hsn
    obtain ⟨m8, d1, h8, s0, s1, s2, s3, s4, s5, s6, s7, s8, s9, sn⟩ := tx_len hpl hw100
    clear hw5
    replace F := Fr_ch F hx3
    by_cases hw0 : w9 = []
    · subst hw0
      k_steps
      rename Fr _ _ _ _ => FX
      rename News _ _ _ _ => NX
      refine FTurn.intro _ FX NX (by first | assumption | (dsimp only; omega)) (fun p hp => .tail _ hp) off ⟨⟨(by (repeat refine AgOff.set ?_ (by decide)); exact hag), ⟨_, congrArg (fun z => some (Value.str (S z) _)) (by rw [hsn]; unfold stepT; rw [if_pos rfl])⟩, rfl⟩, hlI⟩
    · k_steps
      rename Fr _ _ _ _ => FX
      rename News _ _ _ _ => NX
      refine FTurn.intro _ FX NX (by first | assumption | (dsimp only; omega)) (fun p hp => .tail _ hp) off ⟨⟨(by (repeat refine AgOff.set ?_ (by decide)); exact hag), ⟨_, congrArg (fun z => some (Value.str (S z) _)) (by rw [hsn]; unfold stepT; rw [if_neg hw0])⟩, rfl⟩, hlI⟩
  case done =>
    rintro h tk m' news' htk ⟨hag, ⟨t3, hx3⟩, rfl⟩ F N
    refine hret h tk m' t3 htk F hag ?_ N
    rw [hx3, List.take_of_length_le (by simp [partRefs])]
end
end Mine
end SLc2
section SLd2
local macro_rules | `(tactic| walk_at "z") => `(tactic| skip)
local macro_rules | `(tactic| walk_at "z") => `(tactic| skip)
namespace Mine
theorem fresh22 : True := by
  w_top off
  trivial
end Mine
open PySem PySem.W PyProof.Rows PySem.Calls
set_option Elab.async false
set_option maxRecDepth 100000
set_option maxHeartbeats 8000000
set_option pp.maxSteps 400
set_option autoImplicit false
namespace Mine
theorem ct_pushL (w : World) (a : LexA) (ok : LexOk w a) (line : Int) (u : Tok) (qs : List (PySem.Str × Tok)) (nq ny : Nat) (ys : List (PySem.Str × Tok)) (own : List (Addr × Obj)) (hoff : OwnOff own a.adrs) (x : PySem.Str) (t : Tok) :
    Ct w 20 200 66 [.ref a.x, .str x t] (lexLed a line u qs nq ys ny ++ own) (qs.length ≤ 100000) (fun r n' => r = .none ∧ n' = lexLed a line u (qs ++ [(x, t)]) (nq + 1) ys ny ++ own) := by
  obtain ⟨⟨h1, h2, h3, h4, h5, h6, h7, h8⟩, ⟨g1, g2, g3, g4, g5, g6, g7, g8⟩, _⟩ := nd9 ok.nd
  have hnd := (List.pairwise_cons.mp ok.nd).1
  have e1 := hnd _ (.head _)
  have e2 := hnd _ (.tail _ (.head _))
  have e3 := hnd _ (.tail _ (.tail _ (.head _)))
  have e4 := hnd _ (.tail _ (.tail _ (.tail _ (.head _))))
  have e5 := hnd _ (.tail _ (.tail _ (.tail _ (.tail _ (.head _)))))
  have e6 := hnd _ (.tail _ (.tail _ (.tail _ (.tail _ (.tail _ (.head _))))))
  have e7 := hnd _ (.tail _ (.tail _ (.tail _ (.tail _ (.tail _ (.tail _ (.head _)))))))
  have e8 := hnd _ (.tail _ (.tail _ (.tail _ (.tail _ (.tail _ (.tail _ (.tail _ (.head _))))))))
  have C := ct_push w (.str x t) a.x a.dx a.pb a.d line u (.ref a.tape) (strValues qs) nq ((a.tape, instObj 69 a.dt) :: (a.dt, tapeDict a.e a.v1 a.v2 a.v3 a.v4 a.lam) :: (a.lam, a.LO) :: (a.cc, a.CO) :: (a.cell, a.SO) :: (a.sg, listOf (strValues ys).toArray ny) :: own)
  intro p loose mean mg mb dp un gd env outer A₀ base h₀ L m s Q E B F X N T hf hk hdp hun htk hx hret
  refine C p loose mean mg mb dp un gd env outer A₀ base h₀ L m s Q E B F X N T hf hk hdp hun htk ⟨by simpa [strValues] using hx, ?_, e1, e2, g2⟩ fun r h' tk' n' F' N' ht' hP => ?_
  · have key : ∀ z : Addr, a.x ≠ z → z ≠ a.dx → z ≠ a.pb → ∀ b ∈ [a.x, a.dx, a.pb], z ≠ b := by
      intro z z1 z2 z3 b hb
      simp only [List.mem_cons, List.not_mem_nil, or_false] at hb
      rcases hb with rfl | rfl | rfl
      · exact Ne.symm z1
      · exact z2
      · exact z3
    exact off_cons (key _ e3 h3 g3) (off_cons (key _ e4 h4 g4) (off_cons (key _ e5 h5 g5) (off_cons (key _ e6 h6 g6) (off_cons (key _ e7 h7 g7) (off_cons (key _ e8 h8 g8) (off_sub hoff (by simp)))))))
  · obtain ⟨rfl, rfl⟩ := hP
    have e : strValues qs ++ [.str x t] = strValues (qs ++ [(x, t)]) := by simp [strValues]
    rw [e] at N'
    exact hret .none h' tk' _ F' N' ht' ⟨rfl, rfl⟩
theorem led_in {a : LexA} {line : Int} {u : Tok} {qs ys : List (PySem.Str × Tok)} {nq ny : Nat} {p : Addr × Obj} (h : p ∈ lexLed a line u qs nq ys ny) : p.1 ∈ a.adrs := by
  have e : (lexLed a line u qs nq ys ny).map (·.1) = a.adrs := rfl
  rw [← e]; exact List.mem_map.mpr ⟨p, h, rfl⟩
theorem line_ne {a : LexA} {line : Int} {u : Tok} {qs ys : List (PySem.Str × Tok)} {nq ny : Nat} {c : Addr} {o oL : Obj} {own : List (Addr × Obj)} (h1 : OwnOff ((134, o) :: (c, oL) :: own) a.adrs) (h2 : OwnOff ((c, oL) :: own) [134]) (h3 : ∀ q ∈ own, q.1 ≠ c) : ∀ p ∈ lexLed a line u qs nq ys ny ++ (134, o) :: own, p.1 ≠ c := by
  intro p hp
  rcases List.mem_append.mp hp with hp | hp
  · exact Ne.symm (h1 (c, oL) (.tail _ (.head _)) _ (led_in hp))
  · rcases List.mem_cons.mp hp with rfl | hp
    · exact Ne.symm (h2 (c, oL) (.head _) 134 (.head _))
    · exact h3 p hp
theorem line_front {h₀ h : Heap} {L : Addr} {a : LexA} {line : Int} {u : Tok} {qs ys : List (PySem.Str × Tok)} {nq ny : Nat} {x y : Addr × Obj} {own : List (Addr × Obj)} (N : News h₀ L h (lexLed a line u qs nq ys ny ++ x :: y :: own)) : News h₀ L h (y :: (lexLed a line u qs nq ys ny ++ x :: own)) := fun p hp => N p (by
  rcases List.mem_cons.mp hp with rfl | hp
  · exact List.mem_append_right _ (.tail _ (.head _))
  · rcases List.mem_append.mp hp with hp | hp
    · exact List.mem_append_left _ hp
    · rcases List.mem_cons.mp hp with rfl | hp
      · exact List.mem_append_right _ (.head _)
      · exact List.mem_append_right _ (.tail _ (.tail _ hp)))
theorem line_back {h₀ h : Heap} {L : Addr} {a : LexA} {line : Int} {u : Tok} {qs ys : List (PySem.Str × Tok)} {nq ny : Nat} {x y : Addr × Obj} {own : List (Addr × Obj)} (N : News h₀ L h (y :: (lexLed a line u qs nq ys ny ++ x :: own))) : News h₀ L h (lexLed a line u qs nq ys ny ++ x :: y :: own) := fun p hp => N p (by
  rcases List.mem_append.mp hp with hp | hp
  · exact .tail _ (List.mem_append_left _ hp)
  · rcases List.mem_cons.mp hp with rfl | hp
    · exact .tail _ (List.mem_append_right _ (.head _))
    · rcases List.mem_cons.mp hp with rfl | hp
      · exact .head _
      · exact .tail _ (List.mem_append_right _ (.tail _ hp)))
theorem ct_mklexE (w : World) (t : Tok) (own : List (Addr × Obj)) :
    Ct w 20 200 139 [.str (PySem.Str.ofString "") t] ((134, tabObj #[]) :: own) (OwnOff own [134])
      (fun r n' => ∃ (a : LexA) (u : Tok) (nq ny : Nat), r = .ref a.x ∧ LexOk w a ∧ OwnOff ((134, tabObj (lamTab a.cc)) :: own) a.adrs ∧ CoOk a.CO ∧
        n' = lexLed a 1 u [] nq [] ny ++ (134, tabObj (lamTab a.cc)) :: own) := by
  have e : PySem.Str.ofString "" = S [] := by decide
  rw [e]
  intro p loose mean mg mb dp un gd env outer A₀ base h₀ L m s Q E B F X N T hf hk hdp hun htk hx hret
  refine ct_mklexA w [] t own p loose mean mg mb dp un gd env outer A₀ base h₀ L m s Q E B F X N T hf hk hdp hun htk ⟨Nat.zero_le _, hx⟩ fun r h' tk' n' F' N' ht' hP => ?_
  obtain ⟨a, u, nq, ny, ys, e1, ok, hys, hof, hco, e2⟩ := hP
  have hy : ys = [] := List.map_eq_nil_iff.mp hys
  subst hy
  exact hret r h' tk' n' F' N' ht' ⟨a, u, nq, ny, e1, ok, hof, hco, e2⟩
end Mine
local macro_rules | `(tactic| walk_at "call ref") => `(tactic| (refine Mine.Hold.out ?_))
namespace Mine
section
variable {w : World} {p : Program} {loose : List Str} {mean : ExcName → Option Value} {mg mb : Str → Option Value} {dp un : Nat} {gd : Option (List Code)} {outer : List Env} {A₀ : Around} {base h₀ : Heap} {L : Addr} {s : Shared} {E : Value → Shared → Prop} {Q : Flow → Shared → Prop} {m : PySem.Str → Option Value} {sc : Scope} {st : Stmt} {qn : PySem.Str} {a : Addr} {cd : Value}
theorem sTxt0 (hst : lawSt PySem.Challenge.rw_rw0051_02.row.prog 4 = some (sc, st)) {own : List (Addr × Obj)}
    (F : Fr h₀ L s.heap m) (N : News h₀ L s.heap (own)) (B : Below A₀ base outer h₀) (X : (hd.heap_39 w.params).In h₀) (T9 : Top p loose mean mg mb h₀) (hdp : dp + 160 < recursionLimit) (hu : un + 1600 < cLine) (ht : 1 ≤ s.toks)
    (hret : ∀ h' tk' t, 1 ≤ tk' → Fr h₀ L h' (fun y => if y = ("text" : PySem.Str) then some (.str (S []) t) else m y) → News h₀ L h' own → Q .next { s with heap := h', toks := tk' }) :
    wpAny (model PySem.Challenge.rw_rw0051_02.row.prog w) (cT dp un gd (envOfC qn sc L a cd) outer) (exec st (envOfC qn sc L a cd)) Q E s := by
  have e : lawSt PySem.Challenge.rw_rw0051_02.row.prog 4 = some (_, _) := rfl
  rw [e] at hst
  cases hst
  clear e
  revert X
  k_fill
  intro X
  k_steps
  have e : PySem.Str.ofString "" = S [] := by decide
  rename Fr _ _ _ _ => FX
  rw [e] at FX
  exact hret _ _ _ (by first | assumption | (dsimp only; omega)) FX (by k_asm)
theorem sWait (hst : lawSt PySem.Challenge.rw_rw0051_02.row.prog 8 = some (sc, st)) {own : List (Addr × Obj)}
    (F : Fr h₀ L s.heap m) (N : News h₀ L s.heap (own)) (B : Below A₀ base outer h₀) (X : (hd.heap_39 w.params).In h₀) (T9 : Top p loose mean mg mb h₀) (hdp : dp + 160 < recursionLimit) (hu : un + 1600 < cLine) (ht : 1 ≤ s.toks)
    (hret : ∀ h' tk' t, 1 ≤ tk' → Fr h₀ L h' (fun y => if y = ("waiting" : PySem.Str) then some (.int ((1 : Nat) : Int) t) else m y) → News h₀ L h' own → Q .next { s with heap := h', toks := tk' }) :
    wpAny (model PySem.Challenge.rw_rw0051_02.row.prog w) (cT dp un gd (envOfC qn sc L a cd) outer) (exec st (envOfC qn sc L a cd)) Q E s := by
  have e : lawSt PySem.Challenge.rw_rw0051_02.row.prog 8 = some (_, _) := rfl
  rw [e] at hst
  cases hst
  clear e
  revert X
  k_fill
  intro X
  k_steps
  exact hret _ _ _ (by first | assumption | (dsimp only; omega)) (by k_asm) (by k_asm)
theorem sLine (hst : lawSt PySem.Challenge.rw_rw0051_02.row.prog 6 = some (sc, st)) {oL : Obj} {v₀ : Option Value} {own : List (Addr × Obj)} (hoL : oL.data = .cell v₀) (hoff : OwnOff ((L + 1 + 1, oL) :: own) [134]) (hofc : ∀ q ∈ own, q.1 ≠ L + 1 + 1)
    (F : Fr h₀ L s.heap m) (N : News h₀ L s.heap ((134, tabObj #[]) :: (L + 1 + 1, oL) :: own)) (B : Below A₀ base outer h₀) (X : (hd.heap_39 w.params).In h₀) (T9 : Top p loose mean mg mb h₀) (hdp : dp + 160 < recursionLimit) (hu : un + 1600 < cLine) (ht : 1 ≤ s.toks)
    (hret : ∀ h' tk' X9 u nq ny oL', 1 ≤ tk' → Fr h₀ L h' m → LexOk w X9 → OwnOff ((134, tabObj (lamTab X9.cc)) :: (L + 1 + 1, oL) :: own) X9.adrs → CoOk X9.CO → oL'.data = .cell (some (.ref X9.x)) → News h₀ L h' (lexLed X9 1 u [] nq [] ny ++ (134, tabObj (lamTab X9.cc)) :: (L + 1 + 1, oL') :: own) → Q .next { s with heap := h', toks := tk' }) :
    wpAny (model PySem.Challenge.rw_rw0051_02.row.prog w) (cT dp un gd (envOfC qn sc L a cd) outer) (exec st (envOfC qn sc L a cd)) Q E s := by
  have e : lawSt PySem.Challenge.rw_rw0051_02.row.prog 6 = some (_, _) := rfl
  rw [e] at hst
  cases hst
  clear e
  revert X
  k_fill
  intro X
  k_steps
  unfold Hold
  k_dflt (refine' Mine.ct_useA (Mine.ct_mklexE _ _ _) ?hpz1 ?_; (case hpz1 => with_reducible assumption); k_whole; intro _ _ _ _ _ N' _ hp9; obtain ⟨_, _, _, _, e1, _, _, _, e2⟩ := hp9; subst e1; subst e2; (try k_sweep); (try dsimp only [Mine.lexLed, List.cons_append, List.nil_append] at N'))
  k_steps
  rename LexOk _ _ => ok9
  rename OwnOff (_ :: _ :: _) _ => hof9
  rename CoOk _ => hco9
  rename News _ _ _ _ => NX
  replace NX := line_front (a := _) (u := _) (nq := _) (ny := _) NX
  refine' storeX_C ?zF NX ?zc (.head (line_ne hof9 hoff hofc)) hoL ?_
  case zF => k_asm
  case zc => exact rfl
  intro h8 oL' F8 N8 d8
  replace N8 := line_back N8
  k_steps
  exact hret _ _ _ _ _ _ _ (by first | assumption | (dsimp only; omega)) F8 ok9 hof9 hco9 d8 N8
theorem sPush (hst : lawSt PySem.Challenge.rw_rw0051_02.row.prog 7 = some (sc, st)) {X9 : LexA} (ok : LexOk w X9) {u : Tok} {nq ny : Nat} {o4 oL : Obj} {own : List (Addr × Obj)} (hoff : OwnOff ((134, o4) :: (L + 1 + 1, oL) :: own) X9.adrs) (hoL : oL.data = .cell (some (.ref X9.x))) {x : List Nat} {tx : Tok}
    (F : Fr h₀ L s.heap m) (N : News h₀ L s.heap (lexLed X9 1 u [] nq [] ny ++ (134, o4) :: (L + 1 + 1, oL) :: own)) (B : Below A₀ base outer h₀) (X : (hd.heap_39 w.params).In h₀) (T9 : Top p loose mean mg mb h₀) (hdp : dp + 160 < recursionLimit) (hu : un + 1600 < cLine) (ht : 1 ≤ s.toks) (h1 : m ("text" : PySem.Str) = some (.str (S x) tx))
    (hret : ∀ h' tk', 1 ≤ tk' → Fr h₀ L h' m → News h₀ L h' (lexLed X9 1 u [(S x, tx)] (nq + 1) [] ny ++ (134, o4) :: (L + 1 + 1, oL) :: own) → Q .next { s with heap := h', toks := tk' }) :
    wpAny (model PySem.Challenge.rw_rw0051_02.row.prog w) (cT dp un gd (envOfC qn sc L a cd) outer) (exec st (envOfC qn sc L a cd)) Q E s := by
  have e : lawSt PySem.Challenge.rw_rw0051_02.row.prog 7 = some (_, _) := rfl
  rw [e] at hst
  cases hst
  clear e
  revert X
  k_fill
  intro X
  have hch : chain [(("text" : PySem.Str), .str (S x) tx)] m = m := chain_eq (by simp only [List.forall_mem_cons]; exact ⟨h1, fun _ h => nomatch h⟩)
  rw [← hch] at F hret
  dsimp only [chain] at F hret
  have hlen0 : ([] : List (PySem.Str × Tok)).length ≤ 100000 := Nat.zero_le _
  dsimp only [lexLed, List.cons_append, List.nil_append] at N
  k_steps
  unfold Hold
  k_dflt (refine' Mine.ct_useA (Mine.ct_pushL _ _ (by assumption) _ _ _ _ _ _ _ ?hoffz1 _ _) ?hpz1 ?_; (case hoffz1 => with_reducible assumption); (case hpz1 => with_reducible assumption); k_whole; intro _ _ _ _ _ N' _ hp9; obtain ⟨e1, e2⟩ := hp9; subst e1; subst e2; (try k_sweep); (try dsimp only [Mine.lexLed, List.cons_append, List.nil_append] at N'))
  k_steps
  exact hret _ _ (by first | assumption | (dsimp only; omega)) (by k_asm) (by k_asm)
end
end Mine
end SLd2
section SLe2
open PySem PySem.W PyProof.Rows PySem.Calls
set_option Elab.async false
set_option maxRecDepth 100000
set_option maxHeartbeats 8000000
set_option pp.maxSteps 400
set_option autoImplicit false
namespace Mine
/-- the lexer's ledger, its code object taken out -/
abbrev ledR (a : LexA) (line : Int) (u : Tok) (qs : List (PySem.Str × Tok)) (nq : Nat) (ys : List (PySem.Str × Tok)) (ny : Nat) : List (Addr × Obj) :=
  [(a.x, instObj 69 a.dx), (a.dx, lexDict a.d line u (.ref a.tape) a.pb), (a.pb, listOf (strValues qs).toArray nq), (a.tape, instObj 69 a.dt), (a.dt, tapeDict a.e a.v1 a.v2 a.v3 a.v4 a.lam), (a.lam, a.LO), (a.cell, a.SO), (a.sg, listOf (strValues ys).toArray ny)]
theorem mem_swap {α : Type} {a b p : α} {l1 l2 own : List α} : p ∈ a :: b :: ((l1 ++ l2) ++ own) ↔ p ∈ (l1 ++ b :: l2) ++ a :: own := by
  simp only [List.mem_append, List.mem_cons]
  constructor
  · rintro (h | h | (h | h) | h)
    · exact .inr (.inl h)
    · exact .inl (.inr (.inl h))
    · exact .inl (.inl h)
    · exact .inl (.inr (.inr h))
    · exact .inr (.inr h)
  · rintro ((h | h | h) | h | h)
    · exact .inr (.inr (.inl (.inl h)))
    · exact .inr (.inl h)
    · exact .inr (.inr (.inl (.inr h)))
    · exact .inl h
    · exact .inr (.inr (.inr h))
theorem ct_doneL (w : World) (d : Nat) (hd : d < 7) (l : List Nat) (t t2 : Tok) (a : LexA) (ok : LexOk w a) (hco : CoOk a.CO) (line : Int) (u : Tok) (qs ys : List (PySem.Str × Tok)) (nq ny : Nat) (own : List (Addr × Obj)) (h10 : 10 ∉ l) (h13 : 13 ∉ l) (hl : l.length ≤ 20000) (hoff : OwnOff ((134, tabObj (lamTab a.cc)) :: own) a.adrs) (h134 : OwnOff own [134]) :
    Ct w 180 1900 160 [.str (S l) t, .int ((d : Nat) : Int) t2] (lexLed a line u qs nq ys ny ++ (134, tabObj (lamTab a.cc)) :: own) True
      (fun r n' => ∃ D xs c, r = .ref D ∧ (∀ p ∈ lexLed a line u qs nq ys ny ++ (134, tabObj (lamTab a.cc)) :: own, p.1 ≠ D) ∧ xs.map (·.1) = (doneOf d l).map S ∧ n' = (D, listOf (strValues xs).toArray c) :: (lexLed a line u qs nq ys ny ++ (134, tabObj (lamTab a.cc)) :: own)) := by
  rcases d with _ | _ | d
  · have h1 : ∀ b ∈ a.adrs, 134 ≠ b := fun b hb => hoff _ (.head _) b hb
    have hcc : a.cc ∈ a.adrs := .tail _ (.tail _ (.tail _ (.tail _ (.tail _ (.tail _ (.head _))))))
    have hin : ∀ p ∈ ledR a line u qs nq ys ny, p.1 ∈ a.adrs ∧ p.1 ≠ a.cc := by
      intro p hp
      have hm : p.1 ∈ [a.x, a.dx, a.pb, a.tape, a.dt, a.lam] ++ [a.cell, a.sg] := by
        have e : (ledR a line u qs nq ys ny).map (·.1) = [a.x, a.dx, a.pb, a.tape, a.dt, a.lam] ++ [a.cell, a.sg] := rfl
        rw [← e]; exact List.mem_map.mpr ⟨p, hp, rfl⟩
      have hnd : ([a.x, a.dx, a.pb, a.tape, a.dt, a.lam] ++ a.cc :: [a.cell, a.sg]).Nodup := ok.nd
      obtain ⟨_, h2, h3⟩ := List.nodup_append.mp hnd
      have e2 : a.adrs = [a.x, a.dx, a.pb, a.tape, a.dt, a.lam] ++ a.cc :: [a.cell, a.sg] := rfl
      rw [e2]
      rcases List.mem_append.mp hm with hm | hm
      · exact ⟨List.mem_append_left _ hm, h3 _ hm _ (.head _)⟩
      · exact ⟨List.mem_append_right _ (.tail _ hm), fun e => (List.nodup_cons.mp h2).1 (e ▸ hm)⟩
    have C := ct_done0 w l t t2 a.cc a.CO (ledR a line u qs nq ys ny ++ own) hl (fun p hp b hb => by
      rw [List.mem_singleton.mp hb]
      rcases List.mem_append.mp hp with hp | hp
      · exact Ne.symm (h1 _ (hin p hp).1)
      · exact h134 p hp 134 (.head _)) (fun p hp b hb => by
      rw [List.mem_singleton.mp hb]
      rcases List.mem_append.mp hp with hp | hp
      · exact (hin p hp).2
      · exact hoff p (.tail _ hp) _ hcc) (h1 _ hcc) hco
    have hsub : ∀ p, p ∈ (134, tabObj (lamTab a.cc)) :: (a.cc, a.CO) :: (ledR a line u qs nq ys ny ++ own) ↔ p ∈ lexLed a line u qs nq ys ny ++ (134, tabObj (lamTab a.cc)) :: own := by
      intro p
      exact mem_swap (l1 := [(a.x, instObj 69 a.dx), (a.dx, lexDict a.d line u (.ref a.tape) a.pb), (a.pb, listOf (strValues qs).toArray nq), (a.tape, instObj 69 a.dt), (a.dt, tapeDict a.e a.v1 a.v2 a.v3 a.v4 a.lam), (a.lam, a.LO)]) (l2 := [(a.cell, a.SO), (a.sg, listOf (strValues ys).toArray ny)])
    refine C.perm (fun p hp => (hsub p).mp hp) ?_
    rintro r n ⟨D, xs, c, rfl, hne, hxs, rfl⟩
    refine ⟨_, fun p hp => ?_, D, xs, c, rfl, fun p hp => hne p ((hsub p).mpr hp), hxs, rfl⟩
    rcases List.mem_cons.mp hp with rfl | hp
    · exact .head _
    · exact .tail _ ((hsub p).mpr hp)
  · intro p loose mean mg mb dp un gd env outer A₀ base h₀ L m s Q E B F X N T hf hk hdp hun htk hx hret
    exact ct_done1 w l t t2 _ h10 h13 hl p loose mean mg mb dp un gd env outer A₀ base h₀ L m s Q E B F X N T hf hk (by omega) (by omega) htk hx fun r h' tk' n' F' N' ht' hP => hret r h' tk' n' F' N' ht' hP
  · intro p loose mean mg mb dp un gd env outer A₀ base h₀ L m s Q E B F X N T hf hk hdp hun htk hx hret
    refine ct_done2 w d (by omega) l t t2 _ hl p loose mean mg mb dp un gd env outer A₀ base h₀ L m s Q E B F X N T hf hk (by omega) (by omega) htk hx fun r h' tk' n' F' N' ht' hP => hret r h' tk' n' F' N' ht' ?_
    obtain ⟨D, xs, c, e, hne, hxs, e2⟩ := hP
    refine ⟨D, xs, c, e, hne, ?_, e2⟩
    rw [hxs]
    unfold doneOf
    rw [if_neg (by omega), if_pos (by omega)]
    rfl
end Mine
end SLe2
section SLf2
namespace Mine
theorem fresh23 : True := by
  w_top off
  trivial
end Mine
open PySem PySem.W PyProof.Rows PySem.Calls
set_option Elab.async false
set_option maxRecDepth 100000
set_option maxHeartbeats 8000000
set_option pp.maxSteps 400
set_option autoImplicit false
local macro_rules | `(tactic| walk_at "call ref") => `(tactic| (refine Mine.Hold.out ?_))
namespace Mine
def lawIn (P : Program) : Option (Scope × Expr × Expr × Stmt × Expr × Expr × Stmt × Stmt) := match lawSt P 9 with
  | some (sc, .For t9 i9 [s0, .For t8 i8 [si] _ _, s2] _ _) => some (sc, t9, i9, s0, t8, i8, si, s2)
  | _ => none
theorem led_adr {X9 : LexA} {line : Int} {u : Tok} {qs ys : List (PySem.Str × Tok)} {nq ny : Nat} {own : List (Addr × Obj)} {P : Addr → Prop} (h : ∀ p ∈ lexLed X9 line u qs nq ys ny ++ own, P p.1) : (∀ b ∈ X9.adrs, P b) ∧ ∀ p ∈ own, P p.1 := by
  refine ⟨fun b hb => ?_, fun p hp => h p (List.mem_append_right _ hp)⟩
  have e : (lexLed X9 line u qs nq ys ny).map (·.1) = X9.adrs := rfl
  rw [← e] at hb
  obtain ⟨q, hq, rfl⟩ := List.mem_map.mp hb
  exact h q (List.mem_append_left _ hq)
theorem led_all {X9 : LexA} {line : Int} {u : Tok} {qs ys : List (PySem.Str × Tok)} {nq ny : Nat} {own : List (Addr × Obj)} {P : Addr → Prop} (h1 : ∀ b ∈ X9.adrs, P b) (h2 : ∀ p ∈ own, P p.1) : ∀ p ∈ lexLed X9 line u qs nq ys ny ++ own, P p.1 := fun p hp => (List.mem_append.mp hp).elim (fun h => h1 _ (led_in h)) (h2 p)
/-- two objects ahead of the lexer's are laid behind it -/
theorem led_two {h₀ h : Heap} {L : Addr} {X9 : LexA} {line : Int} {u : Tok} {qs ys : List (PySem.Str × Tok)} {nq ny : Nat} {x y : Addr × Obj} {own : List (Addr × Obj)} (N : News h₀ L h (x :: y :: (lexLed X9 line u qs nq ys ny ++ own))) : News h₀ L h (lexLed X9 line u qs nq ys ny ++ x :: y :: own) := fun p hp => N p (by
  rcases List.mem_append.mp hp with hp | hp
  · exact .tail _ (.tail _ (List.mem_append_left _ hp))
  · rcases List.mem_cons.mp hp with rfl | hp
    · exact .head _
    · rcases List.mem_cons.mp hp with rfl | hp
      · exact .tail _ (.head _)
      · exact .tail _ (.tail _ (List.mem_append_right _ hp)))
theorem strValues_len (xs : List (PySem.Str × Tok)) : (strValues xs).length = xs.length := by simp [strValues]
def inNames : List PySem.Str := ["word", "made"]
/-- where the loop over the deed's words stands -/
def InJ (X9 : LexA) (u : Tok) (qs xs : List (PySem.Str × Tok)) (ny k : Nat) (m : PySem.Str → Option Value) (x : Addr × Obj) (own : List (Addr × Obj)) (i : Nat) (m' : PySem.Str → Option Value) (nw : List (Addr × Obj)) : Prop :=
  ∃ nq' t, AgOff inNames m m' ∧ m' ("made" : PySem.Str) = some (.int ((k + i : Nat) : Int) t) ∧ nw = x :: (lexLed X9 1 u (qs ++ xs.take i) nq' [] ny ++ own)
section
variable {w : World} {p : Program} {loose : List Str} {mean : ExcName → Option Value} {mg mb : Str → Option Value} {dp un : Nat} {gd : Option (List Code)} {outer : List Env} {A₀ : Around} {base h₀ : Heap} {L : Addr} {s : Shared} {E : Value → Shared → Prop} {Q : Flow → Shared → Prop} {m : PySem.Str → Option Value} {sc : Scope} {t9 i9 t8 i8 : Expr} {s0 st s2 : Stmt} {qn : PySem.Str} {a : Addr} {cd : Value}
theorem tInner (hst : lawIn PySem.Challenge.rw_rw0051_02.row.prog = some (sc, t9, i9, s0, t8, i8, st, s2)) {X9 : LexA} (ok : LexOk w X9) (hco : CoOk X9.CO) {u : Tok} {nq ny : Nat} {oL : Obj} {own : List (Addr × Obj)} (hoff : OwnOff ((134, tabObj (lamTab X9.cc)) :: (L + 1 + 1, oL) :: own) X9.adrs) (h134 : OwnOff ((L + 1 + 1, oL) :: own) [134]) (hoL : oL.data = .cell (some (.ref X9.x)))
    {d : Nat} (hdd : d < 7) {wd : List Nat} (h10 : 10 ∉ wd) (h13 : 13 ∉ wd) (hwl : wd.length ≤ 20000) {qs : List (PySem.Str × Tok)} (hqs : qs.length ≤ 50000) {tq td tm : Tok} {k : Nat} (hdn : (doneOf d wd).length ≤ 20000)
    (F : Fr h₀ L s.heap m) (N : News h₀ L s.heap (lexLed X9 1 u ((S wd, tq) :: qs) nq [] ny ++ (134, tabObj (lamTab X9.cc)) :: (L + 1 + 1, oL) :: own)) (B : Below A₀ base outer h₀) (X : (hd.heap_39 w.params).In h₀) (T9 : Top p loose mean mg mb h₀) (hdp : dp + 260 < recursionLimit) (hu : un + 2600 < cLine) (ht : 1 ≤ s.toks)
    (h1 : m ("deed" : PySem.Str) = some (.int ((d : Nat) : Int) td)) (h2 : m ("made" : PySem.Str) = some (.int ((k : Nat) : Int) tm))
    (hret : ∀ h' tk' m' xs nq' tm', 1 ≤ tk' → Fr h₀ L h' m' → AgOff inNames m m' → m' ("made" : PySem.Str) = some (.int ((k + xs.length : Nat) : Int) tm') → xs.map (·.1) = (doneOf d wd).map S → News h₀ L h' (lexLed X9 1 u (qs ++ xs) nq' [] ny ++ (134, tabObj (lamTab X9.cc)) :: (L + 1 + 1, oL) :: own) → Q .next { s with heap := h', toks := tk' }) :
    wpAny (model PySem.Challenge.rw_rw0051_02.row.prog w) (cT dp un gd (envOfC qn sc L a cd) outer) (exec st (envOfC qn sc L a cd)) Q E s := by
  have e : lawIn PySem.Challenge.rw_rw0051_02.row.prog = some (_, _, _, _, _, _, _, _) := rfl
  rw [e] at hst
  cases hst
  clear e
  revert X
  k_fill
  intro X
  have hch := AgOff.ch2 (xs := inNames) h1 h2
  replace F := Fr_ch2 "deed" "made" F h1 h2
  have hq1 : qs.length ≤ 100000 := by omega
  refine forWT (by k_asm) ht (fun _ => rfl) ?_
  dsimp only [lexLed, List.cons_append, List.nil_append] at N
  k_steps
  unfold Hold
  k_dflt (refine' Mine.ct_useA (Mine.ct_get _ _ (by assumption) _ _ _ _ _ _ _ _ ?hoffz1 _ ?hqz1) trivial ?_; (case hoffz1 => with_reducible assumption); (case hqz1 => with_reducible assumption); k_whole; intro _ _ _ _ _ N' _ hp9; obtain ⟨e1, e2⟩ := hp9; subst e1; subst e2; (try k_sweep); (try dsimp only [Mine.lexLed, List.cons_append, List.nil_append] at N'))
  k_steps
  unfold Hold
  k_dflt (refine' Mine.ct_useA (Mine.ct_doneL _ _ ?hdz2 _ _ _ _ (by assumption) ?hcoz2 _ _ _ _ _ _ _ ?h10z2 ?h13z2 ?hlz2 ?hoffz2 ?h134z2) trivial ?_; (case hdz2 => with_reducible assumption); (case hcoz2 => with_reducible assumption); (case h10z2 => with_reducible assumption); (case h13z2 => with_reducible assumption); (case hlz2 => with_reducible assumption); (case hoffz2 => with_reducible assumption); (case h134z2 => with_reducible assumption); k_whole; intro _ _ _ _ _ N' _ hp9; obtain ⟨_, _, _, e1, _, _, e2⟩ := hp9; subst e1; subst e2; (try k_sweep); (try dsimp only [Mine.lexLed, List.cons_append, List.nil_append] at N'))
  k_steps
  intro ht9
  rename_i D9 xs9 c9 hne9 hxs9
  rename News _ _ _ _ => N9
  have hxl : xs9.length ≤ 20000 := by
    have := congrArg List.length hxs9
    rw [List.length_map, List.length_map] at this
    omega
  have hDX := led_adr (P := fun b => b ≠ D9) hne9
  have hne9' := fun p hp => hDX.2 p hp
  refine' forAt_list (vs := strValues xs9) (InJ X9 u qs xs9 ny k m (D9, listOf (strValues xs9).toArray c9) ((134, tabObj (lamTab X9.cc)) :: (L + 1 + 1, oL) :: own)) ?hh ?F N9 (.head _) ht9 ?hj ?turn ?done
  case hh => exact rfl
  case F => k_asm
  case hj => exact ⟨nq + 1, tm, hch, rfl, by rw [List.take_zero, List.append_nil]; rfl⟩
  case turn =>
    rintro I oI i v m₁ news₁ h tk E' hI hv ⟨nq1, tm1, hag, hx2, rfl⟩ hl2 htk F N off
    obtain ⟨⟨x, tx⟩, hx, rfl⟩ : ∃ x, xs9[i]? = some x ∧ v = .str x.1 x.2 := by
      unfold strValues at hv
      rw [List.getElem?_map] at hv
      cases hq : xs9[i]? with
      | none => rw [hq] at hv; cases hv
      | some x => rw [hq] at hv; exact ⟨x, rfl, (Option.some.inj hv).symm⟩
    have hDI : D9 ≠ I := Nat.ne_of_lt (hI _ (.head _))
    have hIa := led_adr (P := fun b => b < I) fun p hp => hI p (.tail _ hp)
    have hoff2 : OwnOff ((I, oI) :: (D9, listOf (strValues xs9).toArray c9) :: (134, tabObj (lamTab X9.cc)) :: (L + 1 + 1, oL) :: own) X9.adrs :=
      off_cons (fun b hb => Ne.symm (Nat.ne_of_lt (hIa.1 b hb))) (off_cons (fun b hb => Ne.symm (hDX.1 b hb)) hoff)
    have N3 := led_two N
    have hq2 : (qs ++ xs9.take i).length ≤ 100000 := by rw [List.length_append, List.length_take]; omega
    have hz1 := AgOff.ch2 (xs := inNames) hx2 hx2
    replace F := Fr_ch2 "made" "made" F hx2 hx2
    clear N N9
    dsimp only [lexLed, List.cons_append, List.nil_append] at N3
    refine wpAny_assign_Name ?_
    k_steps
    unfold Hold
    k_dflt (refine' Mine.ct_useA (Mine.ct_pushL _ _ (by assumption) _ _ _ _ _ _ _ ?hoffz3 _ _) ?hpz3 ?_; (case hoffz3 => with_reducible assumption); (case hpz3 => with_reducible assumption); k_whole; intro _ _ _ _ _ N' _ hp9; obtain ⟨e1, e2⟩ := hp9; subst e1; subst e2; (try k_sweep); (try dsimp only [Mine.lexLed, List.cons_append, List.nil_append] at N'))
    k_steps
    have hq3 : qs ++ xs9.take (i + 1) = qs ++ xs9.take i ++ [(x, tx)] := by rw [List.take_add_one, hx, List.append_assoc]; rfl
    refine FTurn.intro ((D9, listOf (strValues xs9).toArray c9) :: (lexLed X9 1 u (qs ++ xs9.take i ++ [(x, tx)]) (nq1 + 1) [] ny ++ (134, tabObj (lamTab X9.cc)) :: (L + 1 + 1, oL) :: own)) (by k_asm)
      (show News _ _ _ (lexLed X9 1 u (qs ++ xs9.take i ++ [(x, tx)]) (nq1 + 1) [] ny ++ (I, oI) :: (D9, listOf (strValues xs9).toArray c9) :: (134, tabObj (lamTab X9.cc)) :: (L + 1 + 1, oL) :: own) by k_asm) (by first | assumption | (dsimp only; omega)) ?sub ?off ⟨⟨nq1 + 1, _, (by (repeat refine AgOff.set ?_ (by decide)); exact hag), rfl, by rw [hq3]⟩, .head _⟩
    case sub =>
      intro y hy
      rcases List.mem_cons.mp hy with rfl | hy
      · exact List.mem_append_right _ (.head _)
      · rcases List.mem_cons.mp hy with rfl | hy
        · exact List.mem_append_right _ (.tail _ (.head _))
        · rcases List.mem_append.mp hy with hy | hy
          · exact List.mem_append_left _ hy
          · exact List.mem_append_right _ (.tail _ (.tail _ hy))
    case off =>
      intro y hy
      rcases List.mem_cons.mp hy with rfl | hy
      · exact hDI
      · exact led_all (P := fun b => b ≠ I) (fun b hb => Nat.ne_of_lt (hIa.1 b hb)) (fun q hq => Nat.ne_of_lt (hIa.2 q hq)) y hy
  case done =>
    rintro h tk m' news' htk ⟨nq1, tm1, hag, hx2, rfl⟩ F N
    rw [strValues_len, List.take_length] at N
    rw [strValues_len] at hx2
    exact hret h tk m' xs9 nq1 tm1 htk F hag hx2 hxs9 fun p hp => N p (.tail _ hp)
end
end Mine
end SLf2
section SLg2
namespace Mine
theorem fresh24 : True := by
  w_top off
  trivial
end Mine
open PySem PySem.W PyProof.Rows PySem.Calls
set_option Elab.async false
set_option maxRecDepth 100000
set_option maxHeartbeats 8000000
set_option pp.maxSteps 400
set_option autoImplicit false
namespace Mine
def lawMid (P : Program) : Option (Scope × Stmt) := match lawSt P 9 with
  | some (sc, .For _ _ [_, sf, _] _ _) => some (sc, sf)
  | _ => none
theorem led_mid {h₀ h : Heap} {L : Addr} {X9 : LexA} {line : Int} {u : Tok} {qs ys : List (PySem.Str × Tok)} {nq ny : Nat} {x y z : Addr × Obj} {own : List (Addr × Obj)} (N : News h₀ L h (z :: (lexLed X9 line u qs nq ys ny ++ x :: y :: own))) : News h₀ L h (lexLed X9 line u qs nq ys ny ++ x :: y :: z :: own) := fun p hp => N p (by
  rcases List.mem_append.mp hp with hp | hp
  · exact .tail _ (List.mem_append_left _ hp)
  · rcases List.mem_cons.mp hp with rfl | hp
    · exact .tail _ (List.mem_append_right _ (.head _))
    · rcases List.mem_cons.mp hp with rfl | hp
      · exact .tail _ (List.mem_append_right _ (.tail _ (.head _)))
      · rcases List.mem_cons.mp hp with rfl | hp
        · exact .head _
        · exact .tail _ (List.mem_append_right _ (.tail _ (.tail _ hp))))
theorem led_mid2 {X9 : LexA} {line : Int} {u : Tok} {qs ys : List (PySem.Str × Tok)} {nq ny : Nat} {x y z : Addr × Obj} {own : List (Addr × Obj)} : ∀ p ∈ z :: (lexLed X9 line u qs nq ys ny ++ x :: y :: own), p ∈ lexLed X9 line u qs nq ys ny ++ x :: y :: z :: own := by
  intro p hp
  rcases List.mem_cons.mp hp with rfl | hp
  · exact List.mem_append_right _ (.tail _ (.tail _ (.head _)))
  · rcases List.mem_append.mp hp with hp | hp
    · exact List.mem_append_left _ hp
    · rcases List.mem_cons.mp hp with rfl | hp
      · exact List.mem_append_right _ (.head _)
      · rcases List.mem_cons.mp hp with rfl | hp
        · exact List.mem_append_right _ (.tail _ (.head _))
        · exact List.mem_append_right _ (.tail _ (.tail _ (.tail _ hp)))
theorem off_mid {x y z : Addr × Obj} {own : List (Addr × Obj)} {as : List Addr} (h : OwnOff (x :: y :: own) as) (hz : ∀ b ∈ as, z.1 ≠ b) : OwnOff (x :: y :: z :: own) as := by
  intro p hp b hb
  rcases List.mem_cons.mp hp with rfl | hp
  · exact h _ (.head _) b hb
  · rcases List.mem_cons.mp hp with rfl | hp
    · exact h _ (.tail _ (.head _)) b hb
    · rcases List.mem_cons.mp hp with rfl | hp
      · exact hz b hb
      · exact h _ (.tail _ (.tail _ hp)) b hb
theorem off_mid1 {y z : Addr × Obj} {own : List (Addr × Obj)} {as : List Addr} (h : OwnOff (y :: own) as) (hz : ∀ b ∈ as, z.1 ≠ b) : OwnOff (y :: z :: own) as := by
  intro p hp b hb
  rcases List.mem_cons.mp hp with rfl | hp
  · exact h _ (.head _) b hb
  · rcases List.mem_cons.mp hp with rfl | hp
    · exact hz b hb
    · exact h _ (.tail _ hp) b hb
def midNames : List PySem.Str := ["turn", "word", "made"]
/-- what a deed asks of the waiting words -/
structure WsOk (d : Nat) (ws : List (List Nat)) : Prop where
  (few : ws.length ≤ 5)
  (fewer : (ws.flatMap (doneOf d)).length ≤ 5)
  (each : ∀ x ∈ ws, 10 ∉ x ∧ 13 ∉ x ∧ x.length ≤ 20000)
theorem flat_mem_len {f : List Nat → List (List Nat)} : ∀ {ws : List (List Nat)} {x : List Nat}, x ∈ ws → (f x).length ≤ (ws.flatMap f).length
  | a :: ws, x, h => by
    rw [List.flatMap_cons, List.length_append]
    rcases List.mem_cons.mp h with rfl | h
    · exact Nat.le_add_right _ _
    · exact Nat.le_trans (flat_mem_len h) (Nat.le_add_left _ _)
theorem flat_take_len {f : List Nat → List (List Nat)} (ws : List (List Nat)) (j : Nat) : ((ws.take j).flatMap f).length ≤ (ws.flatMap f).length := by
  conv => rhs; rw [← List.take_append_drop j ws]
  rw [List.flatMap_append, List.length_append]; exact Nat.le_add_right _ _
/-- where the loop over the waiting words stands -/
def MidJ (X9 : LexA) (u : Tok) (ny d : Nat) (ws : List (List Nat)) (m : PySem.Str → Option Value) (own : List (Addr × Obj)) (j : Nat) (m' : PySem.Str → Option Value) (nw : List (Addr × Obj)) : Prop :=
  ∃ qs nq t, AgOff midNames m m' ∧ m' ("made" : PySem.Str) = some (.int ((((ws.take j).flatMap (doneOf d)).length : Nat) : Int) t) ∧ qs.map (·.1) = (ws.drop j ++ (ws.take j).flatMap (doneOf d)).map S ∧ nw = lexLed X9 1 u qs nq [] ny ++ own
section
variable {w : World} {p : Program} {loose : List Str} {mean : ExcName → Option Value} {mg mb : Str → Option Value} {dp un : Nat} {gd : Option (List Code)} {outer : List Env} {A₀ : Around} {base h₀ : Heap} {L : Addr} {s : Shared} {E : Value → Shared → Prop} {Q : Flow → Shared → Prop} {m : PySem.Str → Option Value} {sc : Scope} {t9 i9 t8 i8 : Expr} {s0 st s2 : Stmt} {qn : PySem.Str} {a : Addr} {cd : Value}
theorem tMid (hst : lawMid PySem.Challenge.rw_rw0051_02.row.prog = some (sc, st)) {X9 : LexA} (ok : LexOk w X9) (hco : CoOk X9.CO) {u : Tok} {nq ny : Nat} {oL : Obj} {own : List (Addr × Obj)} (hoff : OwnOff ((134, tabObj (lamTab X9.cc)) :: (L + 1 + 1, oL) :: own) X9.adrs) (h134 : OwnOff ((L + 1 + 1, oL) :: own) [134]) (hoL : oL.data = .cell (some (.ref X9.x)))
    {d : Nat} (hdd : d < 7) {ws : List (List Nat)} (hws : WsOk d ws) {qs : List (PySem.Str × Tok)} (hqs : qs.map (·.1) = ws.map S) {td tm tw : Tok}
    (F : Fr h₀ L s.heap m) (N : News h₀ L s.heap (lexLed X9 1 u qs nq [] ny ++ (134, tabObj (lamTab X9.cc)) :: (L + 1 + 1, oL) :: own)) (B : Below A₀ base outer h₀) (X : (hd.heap_39 w.params).In h₀) (T9 : Top p loose mean mg mb h₀) (hdp : dp + 260 < recursionLimit) (hu : un + 2600 < cLine) (ht : 1 ≤ s.toks)
    (h1 : m ("deed" : PySem.Str) = some (.int ((d : Nat) : Int) td)) (h2 : m ("made" : PySem.Str) = some (.int ((0 : Nat) : Int) tm)) (h3 : m ("waiting" : PySem.Str) = some (.int ((ws.length : Nat) : Int) tw))
    (hret : ∀ h' tk' m' qs' nq' tm', 1 ≤ tk' → Fr h₀ L h' m' → AgOff midNames m m' → m' ("made" : PySem.Str) = some (.int (((ws.flatMap (doneOf d)).length : Nat) : Int) tm') → qs'.map (·.1) = (ws.flatMap (doneOf d)).map S → News h₀ L h' (lexLed X9 1 u qs' nq' [] ny ++ (134, tabObj (lamTab X9.cc)) :: (L + 1 + 1, oL) :: own) → Q .next { s with heap := h', toks := tk' }) :
    wpAny (model PySem.Challenge.rw_rw0051_02.row.prog w) (cT dp un gd (envOfC qn sc L a cd) outer) (exec st (envOfC qn sc L a cd)) Q E s := by
  have e : lawMid PySem.Challenge.rw_rw0051_02.row.prog = some (_, _) := rfl
  rw [e] at hst
  cases hst
  clear e
  revert X
  k_fill
  intro X
  have hch := AgOff.ch2 (xs := midNames) h3 h3
  replace F := Fr_ch2 "waiting" "waiting" F h3 h3
  have hfew := hws.few
  refine forWT (by k_asm) ht (fun _ => rfl) ?_
  k_steps
  intro ht9
  refine' forAt_range (n := ws.length) (MidJ X9 u ny d ws m ((134, tabObj (lamTab X9.cc)) :: (L + 1 + 1, oL) :: own)) ?hh ?hr ?sm ?rs ?F ?N ?ht ?hj ?turn ?done
  case hh => exact rfl
  case hr => k_asm
  case sm => exact small_one (by decide) (by decide) (by omega) (by omega)
  case rs => rw [rangeSize_one]; split <;> omega
  case F => k_asm
  case N => k_asm
  case ht => exact ht9
  case hj => exact ⟨qs, nq, tm, hch, by rw [List.take_zero]; exact h2, by rw [List.take_zero, List.drop_zero, List.flatMap_nil, List.append_nil]; exact hqs, rfl⟩
  case turn =>
    rintro I oI i t m₁ news₁ h tk E' hI hi ⟨qs1, nq1, tm1, hag, hx2, hqs1, rfl⟩ htk F N off
    rw [show (0 : Int) + (i : Int) = (i : Int) by omega]
    obtain ⟨wd, hwd⟩ : ∃ wd, ws[i]? = some wd := ⟨_, List.getElem?_eq_getElem hi⟩
    obtain ⟨h10, h13, hwl⟩ := hws.each _ (List.mem_of_getElem? hwd)
    have hdr : ws.drop i = wd :: ws.drop (i + 1) := by
      rw [List.drop_eq_getElem_cons hi]
      rw [List.getElem?_eq_getElem hi] at hwd
      rw [Option.some.inj hwd]
    have hdl := flat_mem_len (f := doneOf d) (List.mem_of_getElem? hwd)
    have hft := flat_take_len (f := doneOf d) ws i
    have hfr := hws.fewer
    rw [hdr] at hqs1
    rcases qs1 with _ | ⟨⟨x, tq⟩, qs1⟩
    · cases hqs1
    obtain ⟨hx, hqs9⟩ := List.cons.inj hqs1
    replace hqs9 : qs1.map (·.1) = (ws.drop (i + 1) ++ (ws.take i).flatMap (doneOf d)).map S := hqs9
    dsimp only at hx
    subst hx
    have hlq : qs1.length ≤ 50000 := by
      have := congrArg List.length hqs9
      rw [List.length_map, List.length_map, List.length_append, List.length_drop] at this
      omega
    have hIa := led_adr (P := fun b => b < I) hI
    have hI134 : 134 < I := hIa.2 _ (.head _)
    refine wpAny_assign_Name ?_
    walk1
    rename Fr _ _ _ _ => FX
    rename News _ _ _ _ => NX
    refine wpAny_execs_cons ?_
    refine tInner (by rfl) ok hco (own := (I, oI) :: own) (off_mid hoff fun b hb => Ne.symm (Nat.ne_of_lt (hIa.1 b hb))) (off_mid1 h134 fun b hb => by rw [List.mem_singleton.mp hb]; exact Ne.symm (Nat.ne_of_lt hI134)) hoL hdd h10 h13 hwl hlq (tq := tq) (Nat.le_trans hdl (by omega)) FX (led_mid (show News _ _ _ ((I, oI) :: (lexLed X9 1 u ((S wd, tq) :: qs1) nq1 [] ny ++ (134, tabObj (lamTab X9.cc)) :: (L + 1 + 1, oL) :: own)) from NX)) B X T9 hdp hu (by first | assumption | (dsimp only; omega)) (AgOff.get hag h1) hx2 ?_
    intro h' tk' m' xs nq' tm' htk' F' hag' hx3 hxs N'
    refine wpAny_execs_nil ?_
    have htk1 : (ws.take (i + 1)).flatMap (doneOf d) = (ws.take i).flatMap (doneOf d) ++ doneOf d wd := by
      rw [List.take_add_one, hwd, List.flatMap_append]
      show _ ++ (doneOf d wd ++ []) = _
      rw [List.append_nil]
    have hxl : xs.length = (doneOf d wd).length := by
      have := congrArg List.length hxs
      rw [List.length_map, List.length_map] at this
      exact this
    refine FTurn.intro (lexLed X9 1 u (qs1 ++ xs) nq' [] ny ++ (134, tabObj (lamTab X9.cc)) :: (L + 1 + 1, oL) :: own) F' N' htk' (fun p hp => led_mid2 p hp) (led_all (P := fun b => b ≠ I) (fun b hb => Nat.ne_of_lt (hIa.1 b hb)) fun q hq => Nat.ne_of_lt (hIa.2 q hq))
      ⟨qs1 ++ xs, nq', tm', AgOff.trans (AgOff.set hag (by decide)) (AgOff.sub hag' fun x hx => .tail _ hx), ?made, ?q, rfl⟩
    case made => rw [htk1, List.length_append, ← hxl]; exact hx3
    case q => rw [htk1, List.map_append, hqs9, hxs, ← List.append_assoc, List.map_append, List.map_append, List.map_append]
  case done =>
    rintro h tk m' news' htk ⟨qs1, nq1, tm1, hag, hx2, hqs1, rfl⟩ F N
    rw [List.take_length] at hx2
    rw [List.take_length, List.drop_length, List.nil_append] at hqs1
    exact hret h tk m' qs1 nq1 tm1 htk F hag hx2 hqs1 N
end
end Mine
end SLg2
section SLh2
namespace Mine
theorem fresh25 : True := by
  w_top off
  trivial
end Mine
open PySem PySem.W PyProof.Rows PySem.Calls
set_option Elab.async false
set_option maxRecDepth 100000
set_option maxHeartbeats 8000000
set_option pp.maxSteps 400
set_option autoImplicit false
local macro_rules | `(tactic| walk_at "exec For Name Call cons nil") => `(tactic| (refine Mine.Hold.out ?_))
local macro_rules | `(tactic| walk_at "execs nil") => `(tactic| (k_here; with_reducible refine wpAny_execs_nil ?_))
namespace Mine
def outNames : List PySem.Str := ["deed", "waiting", "turn", "word", "made"]
/-- where the loop over the deeds stands -/
def OutJ (X9 : LexA) (u : Tok) (ny : Nat) (run : List Nat) (l : List Pt) (m : PySem.Str → Option Value) (own : List (Addr × Obj)) (i : Nat) (m' : PySem.Str → Option Value) (nw : List (Addr × Obj)) : Prop :=
  ∃ qs nq t, AgOff outNames m m' ∧ m' ("waiting" : PySem.Str) = some (.int (((wordsW (run.take i) l).length : Nat) : Int) t) ∧ qs.map (·.1) = (wordsW (run.take i) l).map S ∧ nw = lexLed X9 1 u qs nq [] ny ++ own
theorem wordsW_len (run : List Nat) {l : List Pt} (h : l ≠ []) : (wordsW run l).length ≤ l.length := by
  have := wordsP_len run l
  unfold wordsP at this
  rw [if_neg h] at this
  exact this
theorem ws_ok {run : List Nat} {l : List Pt} {i d : Nat} (h0 : l ≠ []) (h5 : l.length ≤ 5) (h7 : run.length = 7) (hr : ∀ e ∈ run, e < 7) (hok : ∀ p ∈ l, PtOk p) (hle : ∀ p ∈ l, PtLe p) (hd : run[i]? = some d) : WsOk d (wordsW (run.take i) l) ∧ (wordsW (run.take i) l).flatMap (doneOf d) = wordsW (run.take (i + 1)) l := by
  have hr2 : ∀ e ∈ run.take i, e < 7 := fun e he => hr e (List.mem_of_mem_take he)
  have e : (wordsW (run.take i) l).flatMap (doneOf d) = wordsW (run.take (i + 1)) l := by
    rw [List.take_add_one, hd]
    exact (words_step d (hr d (List.mem_of_getElem? hd)) _ hr2 l hok).symm
  refine ⟨⟨Nat.le_trans (wordsW_len _ h0) h5, e ▸ Nat.le_trans (wordsW_len _ h0) h5, fun x hx => ?_⟩, e⟩
  have g := gd_words (ρ := run.take i) (by rw [List.length_take]; omega) hr2 l hle x hx
  have gl := g.len
  exact ⟨fun h => (g.ok 10 h).2.1 rfl, fun h => (g.ok 13 h).2.2 rfl, by omega⟩
section
variable {w : World} {p : Program} {loose : List Str} {mean : ExcName → Option Value} {mg mb : Str → Option Value} {dp un : Nat} {gd : Option (List Code)} {outer : List Env} {A₀ : Around} {base h₀ : Heap} {L : Addr} {s : Shared} {E : Value → Shared → Prop} {Q : Flow → Shared → Prop} {m : PySem.Str → Option Value} {sc : Scope} {st : Stmt} {qn : PySem.Str} {a : Addr} {cd : Value}
theorem tOuter (hst : lawSt PySem.Challenge.rw_rw0051_02.row.prog 9 = some (sc, st)) {X9 : LexA} (ok : LexOk w X9) (hco : CoOk X9.CO) {u : Tok} {nq ny : Nat} {oL : Obj} {own : List (Addr × Obj)} (hoff : OwnOff ((134, tabObj (lamTab X9.cc)) :: (L + 1 + 1, oL) :: own) X9.adrs) (h134 : OwnOff ((L + 1 + 1, oL) :: own) [134]) (hoL : oL.data = .cell (some (.ref X9.x)))
    {RL : Addr} {c : Nat} {rv : List Value} {run : List Nat} (hrv : AreInts rv (run.map fun d : Nat => (d : Int))) (hrun : ∀ d ∈ run, d < 7) (hl7 : run.length = 7) (hRL : (RL, listOf rv.toArray c) ∈ own) {l : List Pt} (hl0 : l ≠ []) (hl5 : l.length ≤ 5) (hok : ∀ p ∈ l, PtOk p) (hle : ∀ p ∈ l, PtLe p) {tq tw : Tok}
    (F : Fr h₀ L s.heap m) (N : News h₀ L s.heap (lexLed X9 1 u [(S (txtL l), tq)] nq [] ny ++ (134, tabObj (lamTab X9.cc)) :: (L + 1 + 1, oL) :: own)) (B : Below A₀ base outer h₀) (X : (hd.heap_39 w.params).In h₀) (T9 : Top p loose mean mg mb h₀) (hdp : dp + 260 < recursionLimit) (hu : un + 2600 < cLine) (ht : 1 ≤ s.toks)
    (h1 : m ("run" : PySem.Str) = some (.ref RL)) (h3 : m ("waiting" : PySem.Str) = some (.int ((1 : Nat) : Int) tw))
    (hret : ∀ h' tk' m' qs' nq' tw', 1 ≤ tk' → Fr h₀ L h' m' → AgOff outNames m m' → m' ("waiting" : PySem.Str) = some (.int (((wordsW run l).length : Nat) : Int) tw') → qs'.map (·.1) = (wordsW run l).map S → News h₀ L h' (lexLed X9 1 u qs' nq' [] ny ++ (134, tabObj (lamTab X9.cc)) :: (L + 1 + 1, oL) :: own) → Q .next { s with heap := h', toks := tk' }) :
    wpAny (model PySem.Challenge.rw_rw0051_02.row.prog w) (cT dp un gd (envOfC qn sc L a cd) outer) (exec st (envOfC qn sc L a cd)) Q E s := by
  have e : lawSt PySem.Challenge.rw_rw0051_02.row.prog 9 = some (_, _) := rfl
  rw [e] at hst
  cases hst
  clear e
  revert X
  k_fill
  intro X
  have hch := AgOff.ch2 (xs := outNames) h1 h1
  replace F := Fr_ch2 "run" "run" F h1 h1
  have hlr : rv.length = 7 := by rw [hrv.length, List.length_map, hl7]
  refine forWT (by k_asm) ht (fun _ => rfl) ?_
  k_steps
  intro ht9
  refine' forAt_list (vs := rv) (nn := c) (OutJ X9 u ny run l m ((134, tabObj (lamTab X9.cc)) :: (L + 1 + 1, oL) :: own)) ?hh ?F ?N (List.mem_append_right _ (.tail _ (.tail _ hRL))) ht9 ?hj ?turn ?done
  case hh => exact rfl
  case F => k_asm
  case N => k_asm
  case hj => exact ⟨_, nq, tw, hch, by rw [List.take_zero, words_txt hl0]; exact h3, by rw [List.take_zero, words_txt hl0]; rfl, rfl⟩
  case turn =>
    rintro I oI i v m₁ news₁ h tk E' hI hv ⟨qs1, nq1, tw1, hag, hx2, hqs1, rfl⟩ hl2 htk F N off
    obtain ⟨d9, t9, hd9, rfl⟩ := ints_at hrv hv
    have hd7 := hrun _ (List.mem_of_getElem? hd9)
    obtain ⟨hws, hfl⟩ := ws_ok hl0 hl5 hl7 hrun hok hle hd9
    have hIa := led_adr (P := fun b => b < I) hI
    have hI134 : 134 < I := hIa.2 _ (.head _)
    replace N := led_mid N
    replace F := Fr_ch F hx2
    refine wpAny_assign_Name ?_
    k_steps
    unfold Hold
    rename Fr _ _ _ _ => FX
    rename News _ _ _ _ => NX
    refine tMid (by rfl) ok hco (own := (I, oI) :: own) (off_mid hoff fun b hb => Ne.symm (Nat.ne_of_lt (hIa.1 b hb))) (off_mid1 h134 fun b hb => by rw [List.mem_singleton.mp hb]; exact Ne.symm (Nat.ne_of_lt hI134)) hoL hd7 hws hqs1 FX NX B X T9 hdp hu (by first | assumption | (dsimp only; omega)) rfl rfl rfl ?_
    intro h' tk' m' qs' nq' tm' htk' F' hag' hx3 hqs' N'
    replace F' := Fr_ch F' hx3
    k_steps
    rename Fr _ _ _ _ => FY
    rename News _ _ _ _ => NY
    refine FTurn.intro (lexLed X9 1 u qs' nq' [] ny ++ (134, tabObj (lamTab X9.cc)) :: (L + 1 + 1, oL) :: own) FY NY (by first | assumption | (dsimp only; omega)) (fun p hp => led_mid2 p hp) (led_all (P := fun b => b ≠ I) (fun b hb => Nat.ne_of_lt (hIa.1 b hb)) fun q hq => Nat.ne_of_lt (hIa.2 q hq))
      ⟨⟨qs', nq', _, AgOff.set (AgOff.set (AgOff.trans (by (repeat refine AgOff.set ?_ (by decide)); exact hag) (AgOff.sub hag' fun x hx => .tail _ (.tail _ hx))) (by decide)) (by decide), (by rw [← hfl]; rfl), (by rw [← hfl]; exact hqs'), rfl⟩, List.mem_append_right _ (.tail _ (.tail _ hRL))⟩
  case done =>
    rintro h tk m' news' htk ⟨qs1, nq1, tw1, hag, hx2, hqs1, rfl⟩ F N
    have e7 : run.take rv.length = run := by rw [hlr, ← hl7, List.take_length]
    rw [e7] at hx2 hqs1
    exact hret h tk m' qs1 nq1 tw1 htk F hag hx2 hqs1 N
end
end Mine
end SLh2
section WalkC
local macro_rules | `(tactic| walk_at "eval ListComp") => `(tactic| (k_here; (with_reducible refine' Mine.comp_w ?F (by with_unfolding_all rfl) (by decide) (by k_dflt rfl) (by decide) (by k_dflt rfl) (by k_dflt exact fun _ => rfl) ?_); (case F => k_asm)))
local macro_rules | `(tactic| walk_at "exec Assign cons ListComp") => `(tactic| (k_here; (with_reducible refine' Mine.comp_wA ?F ?L ?w ?c ?d ?k ?n ?x ?y ?p ?s ?_); (case F => k_asm); k_dflt ((case L => rfl); (case w => with_unfolding_all rfl); (case c => with_unfolding_all rfl); (case d => decide); (case k => rfl); (case n => decide); (case x => rfl); (case y => rfl); (case p => rfl); (case s => exact fun _ => rfl))))
local macro_rules | `(tactic| walk_at "eval Name") => `(tactic| (k_here; k_dflt (refine' nameX_F (by k_asm) (by exact rfl) (by k_mem) (by assumption) ?_ (by rfl) (by rfl); k_whole)))
local macro_rules | `(tactic| walk_at "exec For") => `(tactic| (k_here; k_dflt (refine Mine.forW (by k_asm) (fun _ => rfl) ?_)))
section SLi2
namespace Mine
theorem fresh26 : True := by
  w_top off
  trivial
end Mine
open PySem PySem.W PyProof.Rows PySem.Calls
set_option Elab.async false
set_option maxRecDepth 100000
set_option maxHeartbeats 8000000
set_option pp.maxSteps 400
set_option autoImplicit false
local macro_rules | `(tactic| walk_at "call ref") => `(tactic| (refine Mine.Hold.out ?_))
namespace Mine
theorem led_three {X9 : LexA} {line : Int} {u : Tok} {qs ys : List (PySem.Str × Tok)} {nq ny : Nat} {x y z : Addr × Obj} {own : List (Addr × Obj)} (p : Addr × Obj) : p ∈ x :: y :: z :: (lexLed X9 line u qs nq ys ny ++ own) ↔ p ∈ lexLed X9 line u qs nq ys ny ++ x :: y :: z :: own := by
  constructor
  · intro hp
    rcases List.mem_cons.mp hp with rfl | hp
    · exact List.mem_append_right _ (.head _)
    · rcases List.mem_cons.mp hp with rfl | hp
      · exact List.mem_append_right _ (.tail _ (.head _))
      · rcases List.mem_cons.mp hp with rfl | hp
        · exact List.mem_append_right _ (.tail _ (.tail _ (.head _)))
        · rcases List.mem_append.mp hp with hp | hp
          · exact List.mem_append_left _ hp
          · exact List.mem_append_right _ (.tail _ (.tail _ (.tail _ hp)))
  · intro hp
    rcases List.mem_append.mp hp with hp | hp
    · exact .tail _ (.tail _ (.tail _ (List.mem_append_left _ hp)))
    · rcases List.mem_cons.mp hp with rfl | hp
      · exact .head _
      · rcases List.mem_cons.mp hp with rfl | hp
        · exact .tail _ (.head _)
        · rcases List.mem_cons.mp hp with rfl | hp
          · exact .tail _ (.tail _ (.head _))
          · exact .tail _ (.tail _ (.tail _ (List.mem_append_right _ hp)))
theorem off1_mem {D : Addr} : ∀ {l : List (Addr × Obj)}, LCg.Off1 D l → ∀ p ∈ l, p.1 ≠ D
  | [], _, _, h => nomatch h
  | _ :: _, x, p, h => by
    rcases List.mem_cons.mp h with rfl | h
    · exact x.1
    · exact off1_mem x.2 p h
def LeftJ (X9 : LexA) (u : Tok) (ny : Nat) (qs : List (PySem.Str × Tok)) (own : List (Addr × Obj)) (i : Nat) (zs : List Value) (nw : List (Addr × Obj)) : Prop :=
  ∃ nq, zs = strValues (qs.take i) ∧ nw = lexLed X9 1 u (qs.drop i) nq [] ny ++ own
section
variable {w : World} {p : Program} {loose : List Str} {mean : ExcName → Option Value} {mg mb : Str → Option Value} {dp un : Nat} {gd : Option (List Code)} {outer : List Env} {A₀ : Around} {base h₀ : Heap} {L : Addr} {s : Shared} {E : Value → Shared → Prop} {Q : Flow → Shared → Prop} {m : PySem.Str → Option Value} {sc : Scope} {st : Stmt} {qn : PySem.Str} {a : Addr} {cd : Value}
theorem sLeft (hst : lawSt PySem.Challenge.rw_rw0051_02.row.prog 10 = some (sc, st)) {X9 : LexA} (ok : LexOk w X9) {u : Tok} {nq ny : Nat} {oL : Obj} {own : List (Addr × Obj)} (hoff : OwnOff ((134, tabObj (lamTab X9.cc)) :: (L + 1 + 1, oL) :: own) X9.adrs) (hoL : oL.data = .cell (some (.ref X9.x)))
    {qs : List (PySem.Str × Tok)} (hq5 : qs.length ≤ 5) {tw : Tok}
    (F : Fr h₀ L s.heap m) (N : News h₀ L s.heap (lexLed X9 1 u qs nq [] ny ++ (134, tabObj (lamTab X9.cc)) :: (L + 1 + 1, oL) :: own)) (B : Below A₀ base outer h₀) (X : (hd.heap_39 w.params).In h₀) (T9 : Top p loose mean mg mb h₀) (hdp : dp + 260 < recursionLimit) (hu : un + 2600 < cLine) (ht : 1 ≤ s.toks)
    (h3 : m ("waiting" : PySem.Str) = some (.int ((qs.length : Nat) : Int) tw))
    (hret : ∀ h' tk' TL nq' c, 1 ≤ tk' → (∀ b ∈ X9.adrs, TL ≠ b) → Fr h₀ L h' (fun y => if y = ("left" : PySem.Str) then some (.ref TL) else m y) → News h₀ L h' ((TL, listOf (strValues qs).toArray c) :: (lexLed X9 1 u [] nq' [] ny ++ (134, tabObj (lamTab X9.cc)) :: (L + 1 + 1, oL) :: own)) → Q .next { s with heap := h', toks := tk' }) :
    wpAny (model PySem.Challenge.rw_rw0051_02.row.prog w) (cT dp un gd (envOfC qn sc L a cd) outer) (exec st (envOfC qn sc L a cd)) Q E s := by
  have e : lawSt PySem.Challenge.rw_rw0051_02.row.prog 10 = some (_, _) := rfl
  rw [e] at hst
  cases hst
  clear e
  revert X
  k_fill
  intro X
  have hch : chain [(("waiting" : PySem.Str), .int ((qs.length : Nat) : Int) tw)] m = m := chain_eq (by simp only [List.forall_mem_cons]; exact ⟨h3, fun _ h => nomatch h⟩)
  rw [← hch] at F hret
  dsimp only [chain] at F hret
  refine wpAny_with_toks (n := 1) ht ?_
  k_steps
  rename News _ _ _ _ => N9
  refine' compAt_range (n := qs.length) (LeftJ X9 u ny qs ((134, tabObj (lamTab X9.cc)) :: (L + 1 + 1, oL) :: own)) ?hh ?hr ?sm ?rs ?F N9 ?hsz ?hj ?turn ?fin
  case hh => exact rfl
  case hr => k_asm
  case sm => exact small_one (by decide) (by decide) (by omega) (by omega)
  case rs => rw [rangeSize_one]; split <;> omega
  case F => k_asm
  case hsz => rw [sizeLine_eq]; omega
  case hj => exact ⟨nq, rfl, rfl⟩
  case turn =>
    rintro i zs nw t I oI C oC D m₂ h tk g E' hi ⟨nq1, rfl, rfl⟩ hO hmx F N off ne
    have ho3 := LCg.Off3.mem off
    have hdr : qs.drop i = qs[i] :: qs.drop (i + 1) := List.drop_eq_getElem_cons hi
    obtain ⟨⟨x, tx⟩, hx⟩ : ∃ x, qs[i] = x := ⟨_, rfl⟩
    rw [hx] at hdr
    rw [hdr] at N ho3
    have hI := led_adr (P := fun b => b ≠ I ∧ b ≠ C ∧ b ≠ D) ho3
    have hoff2 : OwnOff ((I, oI) :: (C, oC) :: (D, LCg.lst (strValues (qs.take i))) :: (134, tabObj (lamTab X9.cc)) :: (L + 1 + 1, oL) :: own) X9.adrs :=
      off_cons (fun b hb => Ne.symm (hI.1 b hb).1) (off_cons (fun b hb => Ne.symm (hI.1 b hb).2.1) (off_cons (fun b hb => Ne.symm (hI.1 b hb).2.2) hoff))
    have hq1 : (qs.drop (i + 1)).length ≤ 100000 := by rw [List.length_drop]; omega
    replace N : News _ _ _ _ := fun p hp => N p ((led_three p).mpr hp)
    dsimp only [lexLed, List.cons_append, List.nil_append] at N
    k_steps
    unfold Hold
    k_dflt (refine' Mine.ct_use0 (Mine.ct_get0 _ _ (by assumption) _ _ _ _ _ _ _ _ ?hoffz1 _ ?hqz1) (by k_asm) (by k_asm) (by k_asm) (by k_asm) (by k_asm) (by exact rfl) (by exact rfl) (by ktr_room) (by ktr_units) trivial ?_; (case hoffz1 => with_reducible assumption); (case hqz1 => with_reducible assumption); k_whole; intro _ _ _ _ _ _ _ hp9; obtain ⟨e1, e2⟩ := hp9; subst e1; subst e2; (try k_sweep))
    k_steps
    rename Fr _ _ _ _ => FX
    rename News _ _ _ _ => NX
    refine LCg.CompEnd.intro FX NX (lexLed X9 1 u (qs.drop (i + 1)) (nq1 + 1) [] ny ++ (134, tabObj (lamTab X9.cc)) :: (L + 1 + 1, oL) :: own) (fun p hp => (led_three p).mp hp) off trivial ⟨nq1 + 1, ?_, rfl⟩
    rw [List.take_add_one, List.getElem?_eq_getElem hi, hx]
    simp [strValues]
  case fin =>
    rintro g zs nw ⟨nq1, rfl, rfl⟩ D₂ h tk F N off ht'
    rw [List.take_length, List.drop_length] at N
    exact hret _ _ _ _ _ ht' (fun b hb => Ne.symm ((led_adr (P := fun b => b ≠ D₂) (off1_mem off)).1 b hb)) F N
end
end Mine
end SLi2
section SLq9
open PySem PySem.W PyProof.Rows PySem.Calls
set_option Elab.async false
set_option maxRecDepth 100000
set_option maxHeartbeats 8000000
set_option pp.maxSteps 400
set_option autoImplicit false
namespace Mine
theorem strOk_S {l : List Nat} (h : ∀ c ∈ l, c < 1114112) : PyData.strOk (S l) = true := by
  unfold PyData.strOk
  simpa using h
theorem carried_strs : ∀ xs : List (PySem.Str × Tok), CarriedAll (strValues xs) (xs.map fun p => PyData.str p.1)
  | [] => .nil
  | p :: xs => .cons (.str p.1 p.2) (carried_strs xs)
theorem canLay_strs : ∀ xs : List (PySem.Str × Tok), (∀ p ∈ xs, PyData.strOk p.1 = true) → PyData.canLayAll0 (xs.map fun p => PyData.str p.1) = true
  | [], _ => rfl
  | p :: xs, h => by simp [PyData.canLayAll0, PyData.canLay0, canLay_strs xs fun q hq => h q (.tail _ hq), h p (.head _)]
theorem depth_strs : ∀ xs : List (PySem.Str × Tok), PyData.depthAll (xs.map fun p => PyData.str p.1) = 0
  | [] => rfl
  | p :: xs => by simp [PyData.depthAll, PyData.depth, depth_strs xs]
theorem shaped_strs (xs : List (PySem.Str × Tok)) (h : ∀ p ∈ xs, PyData.strOk p.1 = true) : SeqAt.shaped (.list (xs.map fun p => PyData.str p.1)) = true := by
  simp [SeqAt.shaped, PyData.canLay0, PyData.depth, canLay_strs xs h, depth_strs]
section
variable {prog : Program} {w : World} {A : Around} {E : Value → Shared → Prop} {s : Shared} {h₀ : Heap} {L : Addr} {m : PySem.Str → Option Value} {news : List (Addr × Obj)}
theorem eq_texts {a b : Addr} {xs ys : List (PySem.Str × Tok)} {n1 n2 : Nat} {Q : Value → Shared → Prop} (N : News h₀ L s.heap news) (h1 : (a, listOf (strValues xs).toArray n1) ∈ news) (h2 : (b, listOf (strValues ys).toArray n2) ∈ news) (e : xs.map (·.1) = ys.map (·.1)) (hok : ∀ x ∈ xs.map (·.1), PyData.strOk x = true) (hu : A.units + 64 < cLine) (h : Q (.bool true) s) :
    wpAny (model prog w) A (compareOp .Eq (.ref a) (.ref b)) Q E s := by
  have ha : s.heap.IsList a (strValues xs).toArray := ⟨_, (N _ h1).1, rfl, _, rfl⟩
  have hb : s.heap.IsList b (strValues ys).toArray := ⟨_, (N _ h2).1, rfl, _, rfl⟩
  have ox : ∀ p ∈ xs, PyData.strOk p.1 = true := fun p hp => hok _ (List.mem_map.mpr ⟨p, hp, rfl⟩)
  have oy : ∀ p ∈ ys, PyData.strOk p.1 = true := fun p hp => hok _ (by rw [e]; exact List.mem_map.mpr ⟨p, hp, rfl⟩)
  refine eq_dataH (reads_newData ha (carried_strs xs)) (reads_newData hb (carried_strs ys)) (shaped_strs _ ox) (shaped_strs _ oy) hu ?_
  have e2 : (xs.map fun p => PyData.str p.1) = ys.map fun p => PyData.str p.1 := by
    have := congrArg (List.map PyData.str) e
    rw [List.map_map, List.map_map] at this
    exact this
  rw [e2, PySem.SeqAt.eqv_refl _ (by simp [PyData.canLay0, canLay_strs _ oy])]
  exact h
theorem eq_texts2 {a b : Addr} {xs ys : List (PySem.Str × Tok)} {z : List PySem.Str} {n1 n2 : Nat} {Q : Value → Shared → Prop} (N : News h₀ L s.heap news) (h1 : (a, listOf (strValues xs).toArray n1) ∈ news) (h2 : (b, listOf (strValues ys).toArray n2) ∈ news) (e1 : xs.map (·.1) = z) (e2 : ys.map (·.1) = z) (hok : ∀ x ∈ xs.map (·.1), PyData.strOk x = true) (hu : A.units + 64 < cLine) (h : Q (.bool true) s) :
    wpAny (model prog w) A (compareOp .Eq (.ref a) (.ref b)) Q E s := eq_texts N h1 h2 (e1.trans e2.symm) hok hu h
theorem eqE {x : List Nat} {t u : Tok} {Q : Value → Shared → Prop} (hx : x = []) (k : Q (.bool true) s) : wpAny (model prog w) A (compareOp .Eq (.str (S x) t) (.str (PySem.Str.ofString "") u)) Q E s := by
  subst hx
  refine PySem.P.eq_str ?_
  have e : ((S []).cps.toList == (PySem.Str.ofString "").cps.toList) = true := by decide
  rw [e]; exact k
end
theorem ct_getN (w : World) (a : LexA) (ok : LexOk w a) (line : Int) (u : Tok) (nq ny : Nat) (own : List (Addr × Obj)) (hoff : OwnOff own a.adrs) :
    Ct w 100 800 59 [.ref a.x] (lexLed a line u [] nq [] ny ++ own) True
      (fun r n' => ∃ t' u' ny' ys' line', r = .str (S []) t' ∧ n' = lexLed a line' u' [] nq ys' ny' ++ own) := by
  intro p loose mean mg mb dp un gd env outer A₀ base h₀ L m s Q E B F X N T hf hk hdp hun htk hx hret
  refine ct_getE w a ok line u nq ny own hoff [] [] rfl (Nat.zero_le _) p loose mean mg mb dp un gd env outer A₀ base h₀ L m s Q E B F X N T hf hk hdp hun htk hx fun r h' tk' n' F' N' ht' hP => ?_
  obtain ⟨t', u', ny', ys', line', e1, _, _, e2⟩ := hP
  exact hret r h' tk' n' F' N' ht' ⟨t', u', ny', ys', line', e1, e2⟩
end Mine
end SLq9
end WalkC
section SLj2
namespace Mine
theorem fresh27 : True := by
  w_top off
  trivial
end Mine
open PySem PySem.W PyProof.Rows PySem.Calls
set_option Elab.async false
set_option maxRecDepth 100000
set_option maxHeartbeats 8000000
set_option pp.maxSteps 400
set_option autoImplicit false
local macro_rules | `(tactic| k_allIn) => `(tactic| first | with_reducible assumption | (refine Mine.memAll_tail ?_; k_allIn))
local macro_rules | `(tactic| walk_at "call ref") => `(tactic| (refine Mine.Hold.out ?_))
local macro_rules | `(tactic| walk_at "compareOp Eq ref ref") => `(tactic| (refine Mine.Hold.out ?_))
local macro_rules | `(tactic| walk_at "compareOp Eq str str") => `(tactic| (k_here; k_dflt (refine' Mine.eqE rfl ?_; k_whole)))
namespace Mine
section
variable {w : World} {p : Program} {loose : List Str} {mean : ExcName → Option Value} {mg mb : Str → Option Value} {dp un : Nat} {gd : Option (List Code)} {outer : List Env} {A₀ : Around} {base h₀ : Heap} {L : Addr} {s : Shared} {E : Value → Shared → Prop} {Q : Flow → Shared → Prop} {m : PySem.Str → Option Value} {sc : Scope} {st : Stmt} {qn : PySem.Str} {a : Addr} {cd : Value}
theorem sRet (hst : lawSt PySem.Challenge.rw_rw0051_02.row.prog 11 = some (sc, st)) {X9 : LexA} (ok : LexOk w X9) {u : Tok} {nq ny : Nat} {oL : Obj} {own : List (Addr × Obj)} (hoff : OwnOff ((134, tabObj (lamTab X9.cc)) :: (L + 1 + 1, oL) :: own) X9.adrs) (hoL : oL.data = .cell (some (.ref X9.x)))
    {RL PL TL : Addr} {cr cp c : Nat} {rv : List Value} {run : List Nat} (hrv : AreInts rv (run.map fun d : Nat => (d : Int))) (hrun : ∀ d ∈ run, d < 7) (hl7 : run.length = 7) (hRL : (RL, listOf rv.toArray cr) ∈ own) {ps : List PartE} (hps : ps ≠ []) (hlp : ps.length ≤ 5) (hpm : ∀ e ∈ ps, PtLe e.p) (hPL : (PL, listOf (partRefs ps).toArray cp) ∈ own) (hT : ∀ e ∈ ps, (e.T, partO e) ∈ own)
    {qs : List (PySem.Str × Tok)} (hqs : qs.map (·.1) = (wordsW run (ps.map (·.p))).map S) (hTX : ∀ b ∈ X9.adrs, TL ≠ b)
    (F : Fr h₀ L s.heap m) (N : News h₀ L s.heap ((TL, listOf (strValues qs).toArray c) :: (lexLed X9 1 u [] nq [] ny ++ (134, tabObj (lamTab X9.cc)) :: (L + 1 + 1, oL) :: own))) (B : Below A₀ base outer h₀) (X : (hd.heap_39 w.params).In h₀) (T9 : Top p loose mean mg mb h₀) (hdp : dp + 260 < recursionLimit) (hu : un + 2600 < cLine) (ht : 1 ≤ s.toks)
    (h1 : m ("left" : PySem.Str) = some (.ref TL)) (h2 : m ("parts" : PySem.Str) = some (.ref PL)) (h3 : m ("run" : PySem.Str) = some (.ref RL))
    (hret : ∀ h' tk' m' tb, 1 ≤ tk' → Fr h₀ L h' m' → News h₀ L h' [(134, tabObj tb)] → Q (.ret (.bool true)) { s with heap := h', toks := tk' }) :
    wpAny (model PySem.Challenge.rw_rw0051_02.row.prog w) (cT dp un gd (envOfC qn sc L a cd) outer) (exec st (envOfC qn sc L a cd)) Q E s := by
  have e : lawSt PySem.Challenge.rw_rw0051_02.row.prog 11 = some (_, _) := rfl
  rw [e] at hst
  cases hst
  clear e
  revert X
  k_fill
  intro X
  have hok : ∀ x ∈ qs.map (·.1), PyData.strOk x = true := by
    rw [hqs]
    intro x hx
    obtain ⟨y, hy, rfl⟩ := List.mem_map.mp hx
    have hpp : (ps.map (·.p)) ≠ [] := fun e => hps (List.map_eq_nil_iff.mp e)
    exact strOk_S fun c hc => ((gd_words (by omega) hrun _ (fun p hp => by
      obtain ⟨e, he, rfl⟩ := List.mem_map.mp hp
      exact hpm e he) y hy).ok c hc).1
  have hoffT : OwnOff ((TL, listOf (strValues qs).toArray c) :: (134, tabObj (lamTab X9.cc)) :: (L + 1 + 1, oL) :: own) X9.adrs := off_cons hTX hoff
  have hT9 := hT
  replace F := Fr_ch4 "left" "parts" "run" "run" F h1 h2 h3 h3
  replace N : News h₀ L s.heap (lexLed X9 1 u [] nq [] ny ++ (TL, listOf (strValues qs).toArray c) :: (134, tabObj (lamTab X9.cc)) :: (L + 1 + 1, oL) :: own) := fun p hp => N p (by
    rcases List.mem_append.mp hp with hp | hp
    · exact .tail _ (List.mem_append_left _ hp)
    · rcases List.mem_cons.mp hp with rfl | hp
      · exact .head _
      · exact .tail _ (List.mem_append_right _ hp))
  dsimp only [lexLed, List.cons_append, List.nil_append] at N
  k_steps
  unfold Hold
  k_dflt (refine' Mine.ct_useA (Mine.ct_told _ _ ?hrz1 ?h7z1 _ ?hvz1 _ _ _ _ _ ?hpz1 ?hlz1 ?hmz1 _ ?h1z1 ?h2z1 ?h3z1) trivial ?_; (case hrz1 => with_reducible assumption); (case h7z1 => with_reducible assumption); (case hvz1 => with_reducible assumption); (case hpz1 => with_reducible assumption); (case hlz1 => with_reducible assumption); (case hmz1 => with_reducible assumption); (case h1z1 => k_ownIn); (case h2z1 => k_ownIn); (case h3z1 => k_allIn); k_whole; intro _ _ _ _ _ _ _ hp9; obtain ⟨_, _, _, e1, _, e2⟩ := hp9; subst e1; subst e2; (try k_sweep))
  k_steps
  unfold Hold
  k_dflt (refine' Mine.eq_texts2 ?Nz2 ?az2 ?bz2 ?ez2 ?fz2 ?oz2 ?uz2 ?_; (case Nz2 => k_asm); (case az2 => k_mem); (case bz2 => k_mem); (case ez2 => with_reducible assumption); (case fz2 => with_reducible assumption); (case oz2 => with_reducible assumption); (case uz2 => ktr_units); k_whole)
  k_steps
  unfold Hold
  k_dflt (refine' Mine.ct_useA (Mine.ct_getN _ _ (by assumption) _ _ _ _ _ ?hoffz3) trivial ?_; (case hoffz3 => with_reducible assumption); k_whole; intro _ _ _ _ _ N' _ hp9; obtain ⟨_, _, _, _, _, e1, e2⟩ := hp9; subst e1; subst e2; (try k_sweep); (try dsimp only [Mine.lexLed, List.cons_append, List.nil_append] at N'))
  k_steps
  rename Fr _ _ _ _ => FX
  rename News _ _ _ _ => NX
  exact hret _ _ _ (lamTab X9.cc) (Nat.le_add_left 1 _) FX (fun p hp => NX p (by
    rw [List.mem_singleton.mp hp]
    repeat first | exact List.Mem.head _ | refine List.Mem.tail _ ?_))
end
end Mine
end SLj2
section SLk2
open PySem PySem.W PyProof.Rows PySem.Calls
set_option Elab.async false
set_option maxRecDepth 100000
set_option maxHeartbeats 8000000
set_option pp.maxSteps 400
set_option autoImplicit false
namespace Mine
def lawTail2 (P : Program) : Option (Scope × List Stmt) := match P.main.body.getLast? with
  | some (.FunctionDef _ _ (_ :: _ :: body) _ _ _ scope _ _ _) => some (scope, body)
  | _ => none
/-- the objects that the lexer finds: lists and tuples -/
def SeqObj (p : Addr × Obj) : Prop := ∃ its n, p.2.data = .seq its n
theorem seq_list (x : Addr) (its : Array Value) (n : Nat) : SeqObj (x, listOf its n) := ⟨_, _, rfl⟩
theorem seq_parts {es : List PartE} : ∀ p ∈ partLed es, SeqObj p := fun p hp => by
  obtain ⟨e, _, rfl⟩ := List.mem_map.mp hp
  exact ⟨_, _, rfl⟩
theorem seq_off {h₀ h : Heap} {L b : Addr} {o : Obj} {own : List (Addr × Obj)} (N : News h₀ L h ((b, o) :: own)) (hs : ∀ p ∈ own, SeqObj p) (ho : ∀ its n, o.data ≠ .seq its n) : ∀ p ∈ own, p.1 ≠ b := fun p hp e => by
  have h1 := (N _ (.tail _ hp)).1
  have h2 := (N _ (.head _)).1
  rw [e] at h1
  obtain ⟨its, n, hd⟩ := hs p hp
  have := Option.some.inj (h1.symm.trans h2)
  exact ho its n (by rw [this] at hd; exact hd)
section
variable {w : World} {p : Program} {loose : List Str} {mean : ExcName → Option Value} {mg mb : Str → Option Value} {dp un : Nat} {gd : Option (List Code)} {outer : List Env} {A₀ : Around} {base h₀ : Heap} {L : Addr} {s : Shared} {E : Value → Shared → Prop} {Q : Flow → Shared → Prop} {m : PySem.Str → Option Value} {sc : Scope} {body : List Stmt} {qn : PySem.Str} {a : Addr} {cd : Value}
theorem law2_rest (hst : lawTail2 PySem.Challenge.rw_rw0051_02.row.prog = some (sc, body)) {ns : List Nat} (hns : ∀ n ∈ ns, n < 1000000000) (hl : ns.length = 12) {ND : Addr} {c : Nat} {ys : List Value} (hys : AreInts ys (ns.map fun n : Nat => (n : Int))) {oL : Obj} {v₀ : Option Value} (hoL : oL.data = .cell v₀) (hcell : L + 1 + 1 ≠ 134)
    (F : Fr h₀ L s.heap m) (N : News h₀ L s.heap [(ND, listOf ys.toArray c), (L + 1 + 1, oL), (134, tabObj #[])]) (B : Below A₀ base outer h₀) (X : (hd.heap_39 w.params).In h₀) (T9 : Top p loose mean mg mb h₀) (hdp : dp + 260 < recursionLimit) (hu : un + 2600 < cLine) (ht : 1 ≤ s.toks)
    (h1 : m ("numbers" : PySem.Str) = some (.ref ND))
    (hret : ∀ h' tk' m' tb, 1 ≤ tk' → Fr h₀ L h' m' → News h₀ L h' [(134, tabObj tb)] → Q (.ret (.bool true)) { s with heap := h', toks := tk' }) :
    wpAny (model PySem.Challenge.rw_rw0051_02.row.prog w) (cT dp un gd (envOfC qn sc L a cd) outer) (execs body (envOfC qn sc L a cd)) Q E s := by
  have e : lawTail2 PySem.Challenge.rw_rw0051_02.row.prog = some (_, _) := rfl
  rw [e] at hst
  cases hst
  clear e
  have hd1 : dp + 160 < recursionLimit := by omega
  have hu1 : un + 1600 < cLine := by omega
  have hz : ys.length ≤ 1000 := by rw [hys.length, List.length_map]; omega
  refine wpAny_execs_cons (sRun (by rfl) hys hz (.head _) F N B X T9 hd1 hu1 ht h1 ?_)
  intro hp1 tk1 RL rv cr ht1 hrv F1 N1
  clear F N ht
  dsimp only
  refine wpAny_execs_cons (sParts (by rfl) hys hns hz (.tail _ (.head _)) F1 N1 B X T9 hd1 hu1 ht1 (by exact h1) ?_)
  intro hp2 tk2 PL es cp ht2 hes F2 N2
  clear F1 N1 ht1
  dsimp only
  refine wpAny_execs_cons (sTxt0 (by rfl) F2 N2 B X T9 hd1 hu1 ht2 ?_)
  intro hp3 tk3 t3 ht3 F3 N3
  clear F2 N2 ht2
  dsimp only
  have hl7 : (ns.drop 7).length = 5 := by rw [List.length_drop, hl]
  have hel : es.length = 5 := by
    have := congrArg List.length hes
    rw [List.length_map, List.length_map, hl7] at this
    exact this
  have hep : ∀ e ∈ es, PtLe e.p ∧ PtOk e.p := fun e he => by
    have : e.p ∈ (ns.drop 7).map ptOf := by rw [← hes]; exact List.mem_map.mpr ⟨e, he, rfl⟩
    obtain ⟨n, _, hn⟩ := List.mem_map.mp this
    rw [← hn]
    exact ⟨ptOf_le n, ptOf_ok n⟩
  have hel0 : es ≠ [] := fun e => by rw [e] at hel; cases hel
  refine wpAny_execs_cons (sText (by rfl) (ps := es) (by omega) (fun e he => (hep e he).1) (.head _) (fun e he => .tail _ (List.mem_append_left _ (List.mem_map.mpr ⟨e, List.mem_reverse.mpr he, rfl⟩))) F3 N3 B X T9 hd1 hu1 ht3 (by exact rfl) (by exact rfl) ?_)
  intro hp4 tk4 m4 t4 ht4 F4 hag4 hx4 N4
  have g1 : m4 ("parts" : PySem.Str) = some (.ref PL) := AgOff.get hag4 rfl
  have g2 : m4 ("run" : PySem.Str) = some (.ref RL) := AgOff.get hag4 rfl
  clear F3 N3 ht3 hag4
  dsimp only
  -- the lexer
  obtain ⟨own, hown⟩ : ∃ own, own = (PL, listOf (partRefs es).toArray cp) :: (partLed es.reverse ++ [(RL, listOf rv.toArray cr), (ND, listOf ys.toArray c)]) := ⟨_, rfl⟩
  have hseq : ∀ p ∈ own, SeqObj p := by
    rw [hown]
    intro p hp
    rcases List.mem_cons.mp hp with rfl | hp
    · exact seq_list _ _ _
    · rcases List.mem_append.mp hp with hp | hp
      · exact seq_parts p hp
      · rcases List.mem_cons.mp hp with rfl | hp
        · exact seq_list _ _ _
        · rw [List.mem_singleton.mp hp]; exact seq_list _ _ _
  have N5 : News h₀ L hp4 ((134, tabObj #[]) :: (L + 1 + 1, oL) :: own) := by
    rw [hown]
    intro p hp
    refine N4 p ?_
    rcases List.mem_cons.mp hp with rfl | hp
    · exact .tail _ (List.mem_append_right _ (.tail _ (.tail _ (.tail _ (.head _)))))
    · rcases List.mem_cons.mp hp with rfl | hp
      · exact .tail _ (List.mem_append_right _ (.tail _ (.tail _ (.head _))))
      · rcases List.mem_cons.mp hp with rfl | hp
        · exact .head _
        · rcases List.mem_append.mp hp with hp | hp
          · exact .tail _ (List.mem_append_left _ hp)
          · rcases List.mem_cons.mp hp with rfl | hp
            · exact .tail _ (List.mem_append_right _ (.head _))
            · rw [List.mem_singleton.mp hp]; exact .tail _ (List.mem_append_right _ (.tail _ (.head _)))
  clear N4
  have hRL : (RL, listOf rv.toArray cr) ∈ own := by rw [hown]; exact .tail _ (List.mem_append_right _ (.head _))
  have hPL : (PL, listOf (partRefs es).toArray cp) ∈ own := by rw [hown]; exact .head _
  have hT : ∀ e ∈ es, (e.T, partO e) ∈ own := fun e he => by rw [hown]; exact .tail _ (List.mem_append_left _ (List.mem_map.mpr ⟨e, List.mem_reverse.mpr he, rfl⟩))
  have h134 : OwnOff ((L + 1 + 1, oL) :: own) [134] := off_cons (fun b hb => by rw [List.mem_singleton.mp hb]; exact hcell) fun p hp b hb => by
    rw [List.mem_singleton.mp hb]
    exact seq_off (fun q hq => N5 q (by
      rcases List.mem_cons.mp hq with rfl | hq
      · exact .head _
      · exact .tail _ (.tail _ hq))) hseq (fun its n e => by cases e) p hp
  have hofc : ∀ q ∈ own, q.1 ≠ L + 1 + 1 := seq_off (fun q hq => N5 q (.tail _ hq)) hseq (fun its n e => by rw [hoL] at e; cases e)
  clear hown
  refine wpAny_execs_cons (sLine (by rfl) hoL h134 hofc F4 N5 B X T9 hd1 hu1 ht4 ?_)
  intro hp5 tk5 X9 u nq ny oL' ht5 F5 ok hof hco hoL' N6
  clear F4 N5 ht4
  have h134' : OwnOff ((L + 1 + 1, oL') :: own) [134] := fun p hp b hb => by
    rcases List.mem_cons.mp hp with rfl | hp
    · exact h134 (L + 1 + 1, oL) (.head _) b hb
    · exact h134 p (.tail _ hp) b hb
  have hof' : OwnOff ((134, tabObj (lamTab X9.cc)) :: (L + 1 + 1, oL') :: own) X9.adrs := fun p hp b hb => by
    rcases List.mem_cons.mp hp with rfl | hp
    · exact hof _ (.head _) b hb
    · rcases List.mem_cons.mp hp with rfl | hp
      · exact hof (L + 1 + 1, oL) (.tail _ (.head _)) b hb
      · exact hof p (.tail _ (.tail _ hp)) b hb
  dsimp only
  refine wpAny_execs_cons (sPush (by rfl) ok hof' hoL' F5 N6 B X T9 hd1 hu1 ht5 hx4 ?_)
  intro hp6 tk6 ht6 F6 N7
  clear F5 N6 ht5
  dsimp only
  refine wpAny_execs_cons (sWait (by rfl) F6 N7 B X T9 hd1 hu1 ht6 ?_)
  intro hp7 tk7 t7 ht7 F7 N8
  clear F6 N7 ht6
  dsimp only
  have hrl : ((ns.take 7).map deedOf).length = 7 := by rw [List.length_map, List.length_take]; omega
  have hr7 : ∀ d ∈ (ns.take 7).map deedOf, d < 7 := fun d hd => by
    obtain ⟨n, _, rfl⟩ := List.mem_map.mp hd
    exact deedOf_lt n
  have hrv' : AreInts rv (((ns.take 7).map deedOf).map fun d : Nat => (d : Int)) := by rw [List.map_map]; exact hrv
  have hps0 : es.map (·.p) ≠ [] := fun e => hel0 (List.map_eq_nil_iff.mp e)
  have hps5 : (es.map (·.p)).length ≤ 5 := by rw [List.length_map]; omega
  have hpk : ∀ p ∈ es.map (·.p), PtLe p ∧ PtOk p := fun p hp => by
    obtain ⟨e, he, rfl⟩ := List.mem_map.mp hp
    exact hep e he
  refine wpAny_execs_cons (tOuter (by rfl) ok hco hof' h134' hoL' hrv' hr7 hrl hRL hps0 hps5 (fun p hp => (hpk p hp).2) (fun p hp => (hpk p hp).1) F7 N8 B X T9 hdp hu ht7 (by exact g2) (by exact rfl) ?_)
  intro hp8 tk8 m8 qs nq8 t8 ht8 F8 hag8 hx8 hqs N9
  have g3 : m8 ("parts" : PySem.Str) = some (.ref PL) := AgOff.get hag8 g1
  have g4 : m8 ("run" : PySem.Str) = some (.ref RL) := AgOff.get hag8 g2
  clear F7 N8 ht7 hag8
  dsimp only
  have hqn : qs.length = (wordsW ((ns.take 7).map deedOf) (es.map (·.p))).length := by
    have := congrArg List.length hqs
    rw [List.length_map, List.length_map] at this
    exact this
  have hq5 : qs.length ≤ 5 := by rw [hqn]; exact Nat.le_trans (wordsW_len _ hps0) hps5
  rw [← hqn] at hx8
  refine wpAny_execs_cons (sLeft (by rfl) ok hof' hoL' hq5 F8 N9 B X T9 hdp hu ht8 hx8 ?_)
  intro hp9 tk9 TL nq9 c9 ht9 hTX F9 N10
  clear F8 N9 ht8
  dsimp only
  refine wpAny_execs_cons (sRet (by rfl) ok hof' hoL' hrv' hr7 hrl hRL hel0 (by omega) (fun e he => (hep e he).1) hPL hT hqs hTX F9 N10 B X T9 hdp hu ht9 (by exact rfl) (by exact g3) (by exact g4) ?_)
  intro h' tk' m' tb ht' F' N'
  exact hret h' tk' m' tb ht' F' N'
end
end Mine
end SLk2
section SLt2
namespace Mine
theorem fresh28 : True := by
  w_top off
  trivial
end Mine
open PySem PySem.W PyProof.Rows PySem.Calls
set_option Elab.async false
set_option maxRecDepth 100000
set_option maxHeartbeats 8000000
set_option pp.maxSteps 400
set_option autoImplicit false
local macro_rules | `(tactic| walk_at "exec Assign cons ListComp") => `(tactic| (refine Mine.Hold.out ?_))
local macro_rules | `(tactic| walk_at "call type:enumerate") => `(tactic| (refine Mine.Hold.out ?_))
local macro_rules | `(tactic| walk_at "subscriptTail Name Slice ref ref") => `(tactic| (refine Mine.Hold.out ?_))
local macro_rules | `(tactic| walk_at "eval Name") => `(tactic| (k_here; k_dflt (refine' nameX_F ?N ?c ?m ?d ?_ ?a ?b; (case a => rfl); (case b => rfl); (case N => k_asm); (case c => exact rfl); (case m => k_mem); (case d => assumption); k_whole)))
namespace Mine
def basesL : List Int := [0, 1, 6, 0, 1, 7, 3, 480, 33, 158, 75721, 663]
theorem ai12 {a1 a2 a3 a4 a5 a6 a7 a8 a9 a10 a11 a12 : Int} {t1 t2 t3 t4 t5 t6 t7 t8 t9 t10 t11 t12 : Tok} : AreInts [.int a1 t1, .int a2 t2, .int a3 t3, .int a4 t4, .int a5 t5, .int a6 t6, .int a7 t7, .int a8 t8, .int a9 t9, .int a10 t10, .int a11 t11, .int a12 t12] [a1, a2, a3, a4, a5, a6, a7, a8, a9, a10, a11, a12] :=
  ⟨[(a1, t1), (a2, t2), (a3, t3), (a4, t4), (a5, t5), (a6, t6), (a7, t7), (a8, t8), (a9, t9), (a10, t10), (a11, t11), (a12, t12)], rfl, rfl⟩
def fnOf12 {vs : List Value} {ns : List Int} (_ : IntsAre vs ns) : Int → Int → Int := fun i b => (b + sumFrom vs 12 i).fmod 51200000
theorem num12 {vs : List Value} {ns : List Int} (h : IntsAre vs ns) : ∃ l : List Nat, l.length = 12 ∧ (∀ n ∈ l, n < 1000000000) ∧ (l.map fun n : Nat => (n : Int)) = (List.range 12).map fun i : Nat => fnOf12 h (i : Int) (basesL.getD i 0) := by
  have nn : ∀ i b, 0 ≤ fnOf12 h i b ∧ fnOf12 h i b < 51200000 := fun i b => ⟨Int.fmod_nonneg_of_pos _ (by decide), Int.fmod_lt_of_pos _ (by decide)⟩
  refine ⟨(List.range 12).map fun i : Nat => (fnOf12 h (i : Int) (basesL.getD i 0)).toNat, by simp, fun n hn => ?_, ?_⟩
  · obtain ⟨i, _, rfl⟩ := List.mem_map.mp hn
    have := nn (i : Int) (basesL.getD i 0)
    omega
  · rw [List.map_map]
    refine List.map_congr_left fun i _ => ?_
    exact Int.toNat_of_nonneg (nn (i : Int) (basesL.getD i 0)).1
theorem cell_ne {h₀ h : Heap} {L c : Addr} {oL : Obj} {v₀ : Option Value} {own : List (Addr × Obj)} (N : News h₀ L h own) (m1 : (c, oL) ∈ own) (m2 : (134, tabObj #[]) ∈ own) (hd : oL.data = .cell v₀) : c ≠ 134 := fun e => by
  have h1 := (N _ m1).1
  have h2 := (N _ m2).1
  rw [e] at h1
  have := Option.some.inj (h1.symm.trans h2)
  replace this : oL = tabObj #[] := this
  rw [this] at hd
  cases hd
theorem pick5 {h₀ h : Heap} {L : Addr} {a b c d e : Addr × Obj} (N : News h₀ L h [a, b, c, d, e]) : News h₀ L h [a, c, e] := fun p hp => N p (by
  rcases List.mem_cons.mp hp with rfl | hp
  · exact .head _
  · rcases List.mem_cons.mp hp with rfl | hp
    · exact .tail _ (.tail _ (.head _))
    · rw [List.mem_singleton.mp hp]; exact .tail _ (.tail _ (.tail _ (.tail _ (.head _)))))
theorem law2 : PySem.Challenge.rw_rw0051_02.Holds := hd (by
  k_go0
  rename IntsAre _ _ => hI0
  rename (¬ _ < _) => hlen0
  k_steps
  unfold Hold
  refine wpAny_with_toks (n := 1) (by first | assumption | exact Nat.le_add_left 1 _ | (dsimp only; omega)) ?_
  obtain ⟨f, hf⟩ : ∃ f : Int → Int → Int, f = fnOf12 hI0 := ⟨_, rfl⟩
  (with_reducible refine' comp_enA f ?F ?L ?sw ?hh ?xy ?cl ?ce ?ki ?na ?hx ?hy ?zz ?pp ?s0 ?h)
  case F => k_asm
  case L => rfl
  case sw => with_unfolding_all rfl
  case hh => rfl
  case xy => decide
  case cl => with_unfolding_all rfl
  case ce => decide
  case ki => rfl
  case na => decide
  case hx => rfl
  case hy => rfl
  case zz => rfl
  case pp => rfl
  case s0 => exact fun _ => rfl
  case h =>
    k_steps
    unfold Hold
    (with_reducible refine' Mine.enumN ?Fz ?Nz ?mz ?_); (case Fz => k_asm); (case Nz => k_asm); k_dflt (case mz => k_mem)
    intro e9 it9 oe9 oi9 h9 F9 N9 st9 hei9 off9
    refine ⟨e9, it9, _, _, basesL, 0, oe9, oi9, _, rfl, F9, N9, st9, hei9, (off9 _ (.head _)).1, (off9 _ (.head _)).2, off9, .head _, ai12, Nat.le_of_ble_eq_true rfl, ?_, fun D h tk ys hys F N hoff => ?_⟩
    · rintro i b sb C D m₂ ys oe oi s' E' ⟨t1, hx⟩ ⟨t2, hy⟩ ⟨h, tk, oC, rfl, F, N, hC, hCD, hoff⟩
      k_steps
      unfold Hold
      (with_reducible refine' Mine.pick3 ?Fz9 ?Nz9 ?lz9 ?iz9 (by k_dflt constructor) (by k_dflt constructor) (by k_dflt constructor) (by decide) ?zz9 ?_ (by with_unfolding_all rfl) (by intro _; with_unfolding_all rfl)); (case Fz9 => k_asm); (case Nz9 => k_asm); k_dflt ((case lz9 => assumption); (case iz9 => assumption); (case zz9 => omega)); intro D' h' F' N' l1 hI9
      k_steps
      subst hf
      exact ENd.intro (by rfl) (by k_asm) (by k_asm) (fun p9 hp9 => .tail _ hp9) hC hCD hoff
    · intro ht9
      subst hf
      obtain ⟨l, hl, hb, e⟩ := num12 hI0
      replace hys : AreInts ys ((List.range 12).map fun i : Nat => fnOf12 hI0 (i : Int) (basesL.getD i 0)) := hys
      rw [← e] at hys
      dsimp only
      (refine (?_ : wpAny _ (cT _ _ _ _ _) _ _ _ _))
      refine' law2_rest (ns := l) (by rfl) hb hl hys ?hoL ?hcell F ?N ?B ?X ?T ?hdp ?hu ht9 ?h1 ?ret
      case N => exact pick5 N
      case hoL => assumption
      case hcell => exact cell_ne N (.tail _ (.tail _ (.head _))) (.tail _ (.tail _ (.tail _ (.tail _ (.head _))))) (by assumption)
      case B => k_asm
      case X => k_asm
      case T => k_asm
      case hdp => decide
      case hu => (have hcL9 := cLine_is; have hc4 : callerA.units = 4 := rfl; omega)
      case h1 => exact rfl
      case ret =>
        intro h' tk' m' tb ht' F' N'
        k_steps)
end Mine
end SLt2
end Walk
theorem PySem.Challenge.cw_rw0051_02_holds : PySem.Challenge.rw_rw0051_02.Holds := by
  exact Mine.law2
