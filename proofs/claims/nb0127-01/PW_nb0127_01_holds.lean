import PyProof.Rows.All
import Wide.All
import OpenK.AllK
import Wide.FinOn
import PySem.Challenge.RW_nb0127_01
set_option Elab.async false
set_option compiler.extract_closed false
set_option maxRecDepth 100000
set_option maxHeartbeats 40000000
local macro_rules | `(tactic| walk_at $s) => `(tactic| k_extra $s)
local macro_rules | `(tactic| k_ne) => `(tactic| k_extra "k_ne")
local macro_rules | `(tactic| k_mem) => `(tactic| k_extra "k_mem")
local macro_rules | `(tactic| k_all) => `(tactic| k_extra "k_all")
local macro_rules | `(tactic| k_room) => `(tactic| k_extra "k_room")
local macro_rules | `(tactic| k_updF) => `(tactic| k_extra "k_updF")
local macro_rules | `(tactic| ktr_room) => `(tactic| k_extra "ktr_room")
local macro_rules | `(tactic| ktr_units) => `(tactic| k_extra "ktr_units")
local macro_rules | `(tactic| omega) => `(tactic| k_extra "omega")
section
open PySem PySem.W PyProof.Rows
namespace Lw
noncomputable def qv : Program := view PySem.Challenge.pw_nb0127_01 [26]
noncomputable def lo : List Str := [Str.ofString "__name__", Str.ofString "Entry", Str.ofString "_special_chars_map", Str.ofString "escape", Str.ofString "translate_pattern", Str.ofString "merge_entries", Str.ofString "TOMLDecodeError",
  Str.ofString "skip_until", Str.ofString "suffixed_err", Str.ofString "_law_seek", Str.ofString "_law_plain", Str.ofString "_law_pieces", Str.ofString "_law_reach", Str.ofString "_law_farthest", Str.ofString "_law_cells",
  Str.ofString "_law_text", Str.ofString "_law_rule", Str.ofString "_law_record", Str.ofString "_law_answers", Str.ofString "_law_due", Str.ofString "_law_same", Str.ofString "_law_merged"]
theorem left_of {p q : Program} {loose : List Str} {Xt : Shared → Bool} {α : Type} {Yf : Shared → α} {Ya : World → α} {N : Nat} {g0 : Bool} {H : Params → Heap} {gs : Array GenState} {d : Drawn} {k : Nat}
    (h1 : ∀ w : World, (fencedOpening treeTable p w N).map (fun s => (s.heap, s.gens, s.drawn, s.toks)) = some (H w.params, gs, d, k))
    (h2 : ∀ (os : OsState) (w : World), (topFrom treeTable p w N ⟨H w.params, gs, d, k, os⟩).map (fun s => (openSeen q loose (importedModules p.main.body) Xt g0 s, Yf s)) = some (openGood q loose, Ya w)) :
    LeftO p q loose Xt Yf Ya N g0 := fun w => by
  obtain ⟨s, hs, e⟩ := Option.map_eq_some_iff.mp (h1 w)
  obtain ⟨h, g, d', k', os⟩ := s
  simp only [Prod.mk.injEq] at e
  obtain ⟨rfl, rfl, rfl, rfl⟩ := e
  unfold openEnds
  rw [hs]
  exact h2 os w
theorem boot : ∀ w : World, (fencedOpening treeTable PySem.Challenge.pw_nb0127_01 w 4916).map (fun s => (s.heap, s.gens, s.drawn, s.toks)) = some (boot_heap w.params, Array.mk [], boot_drawn, boot_toks) := fun w => by
  unfold fencedOpening
  rw [Fast.te10274390034422433532, Fast.te14364793385576792824, Fast.te1435165496053646825, Fast.te14289696077712309145]
  kernel_rfl
theorem by4 {P : World → Prop} (h : ∀ (a b : Bool) (w : World), P ((w.withFollow "special-get-raises" b).withFollow "comprehension-iter-twice" a)) (w : World) : P w :=
  byRow2 "comprehension-iter-twice" (P := P) (byRow2 "special-get-raises" (P := fun w => P (w.withFollow "comprehension-iter-twice" false)) (h false false) (h false true))
    (byRow2 "special-get-raises" (P := fun w => P (w.withFollow "comprehension-iter-twice" true)) (h true false) (h true true)) w
end Lw
theorem Lw.headT {r : OpenRow} {d : DefRec} {kwd : List (Str × PySem.Expr)} (H : Hook) (hc : LeftO r.prog Lw.qv Lw.lo (fun s => xlAt Lw.qv [] s && recOk [] s) (Hook.obs H) (Hook.val H) 4916 ∧ WalkO Lw.qv Lw.lo (XL Lw.qv []) (Hook.says H) r.toRowW d kwd fun f vs => PySem.call f vs)
    (h : defOf Lw.qv r.name = some (d, kwd) ∧ r.prog.theDef r.name = some (d.params, d.body, d.scope) ∧ kwWritten? d.params.kwonlyargs d.params.kw_defaults = some kwd ∧ r.records = [] ∧ (!r.writes || r.records.isEmpty) = true ∧ r.wellSaid = true ∧
      (chainsOk Lw.qv && opensWell r.prog && (frees r.toRowW && r.within.isEmpty)) = true ∧ r.prog.bare ∧ r.toRowW.promised) : r.Holds := by
  obtain ⟨h1, h2, h3, h4, h5, h6, h7, h8, h9⟩ := h
  exact holds_open hc.1 (Hook.of H) (Hook.keeps H) (fun s e => xl_of s (Bool.and_eq_true_iff.mp e).1) XL.keeps h1 h2 h3 (fun s e => by rw [h4]; exact recFacts_of (Bool.and_eq_true_iff.mp e).2) h5 h6 h7 h8 h9 hc.2
local macro_rules | `(tactic| o_law) => `(tactic| k_extra "o_law")
local macro_rules | `(tactic| o_head $H) => `(tactic| (refine' Lw.headT $H ?hc ?hh; k_extra "o_head"))
example : True := by
  k_with_none
  k_with "o_law" => (refine holds_law (by decide +kernel) fun said => ?_)
  k_with "o_head" => (
    rotate_left 3
    refine ⟨by rfl, by rfl, by rfl, by rfl, by rfl, by assumption, by decide +kernel, ⟨rfl, rfl, rfl, rfl, rfl, by decide +kernel⟩, ?hw⟩
    all_goals (clear said))
  trivial
open_top hd for PySem.Challenge.rw_nb0127_01
end
example : True := by k_with_none; w_top off; trivial
section
open PySem PySem.W PyProof.Rows
namespace Lw
noncomputable def Comesv (prog : Program) (w : World) (dd cc : Nat) (f : Addr) (news : List (Addr × Obj)) (vs : List Value) (P : Value → List (Addr × Obj) → Prop) (p : Program) (loose : List Str) (mean : ExcName → Option Value) (mg mb : Str → Option Value) (dp un : Nat) (gd : Option (List Code)) (cn : Str) (cs : Scope) (a : Addr) (ccd : Value) (cl : List (Str × Addr)) (outer : List Env) (A₀ : Around) (base h₀ : Heap) (L : Addr) (m : Str → Option Value) (s : Shared) (Q E : Value → Shared → Prop) : Prop :=
    Below A₀ base outer h₀ → Fr h₀ L s.heap m → (hd.heap_1 w.params).In h₀ → News h₀ L s.heap news → Top p loose mean mg mb h₀ → cs.kind = .function → dp + dd < recursionLimit → un + cc < cLine →
    (∀ v nw h' tk', P v nw → Fr h₀ L h' m → News h₀ L h' (nw ++ news) → Q v { s with heap := h', toks := tk' }) →
    wpAny (model prog w) (ktrTop dp un gd cn cs L a ccd cl outer) (call (.ref f) vs) Q E s
noncomputable def Comes (prog : Program) (w : World) (dd cc : Nat) (f : Addr) (news : List (Addr × Obj)) (vs : List Value) (P : Value → List (Addr × Obj) → Prop) : Prop :=
  ∀ (p : Program) (loose : List Str) (mean : ExcName → Option Value) (mg mb : Str → Option Value) (dp un : Nat) (gd : Option (List Code)) (cn : Str) (cs : Scope) (a : Addr) (ccd : Value) (cl : List (Str × Addr)) (outer : List Env) (A₀ : Around)
    (base h₀ : Heap) (L : Addr) (m : Str → Option Value) (s : Shared) (Q E : Value → Shared → Prop),
    Comesv prog w dd cc f news vs P p loose mean mg mb dp un gd cn cs a ccd cl outer A₀ base h₀ L m s Q E
noncomputable def Go (G : Flow → Shared → Prop) : Flow → Shared → Prop := G
noncomputable def GoIs (G : Flow → Shared → Prop) (M : Model) (A : Around) (env : Env) (rest : List Stmt) (Q : Flow → Shared → Prop) (E : Value → Shared → Prop) : Prop :=
  (∀ s', wpAny M A (execs rest env) Q E s' → G .next s') ∧ ∀ f s', f ≠ .next → Q f s' → G f s'
section
variable {G : Flow → Shared → Prop} {M : Model} {A : Around} {env : Env} {st : Stmt} {rest : List Stmt} {Q : Flow → Shared → Prop} {E : Value → Shared → Prop} {s : Shared}
theorem execs_G (h : ∀ G : Flow → Shared → Prop, GoIs G M A env rest Q E → wpAny M A (exec st env) (Go G) E s) : wpAny M A (execs (st :: rest) env) Q E s := by
  refine wpAny_execs_cons (wpAny_mono (h (fun f s' => match f with | .next => wpAny M A (execs rest env) Q E s' | f => Q f s') ⟨fun _ k => k, fun f s' hf k => ?_⟩) (fun f s' k => ?_) fun _ _ y => y)
  · cases f with
    | next => exact absurd rfl hf
    | _ => exact k
  · cases f <;> exact k
theorem go_next (h : GoIs G M A env rest Q E) (k : wpAny M A (execs rest env) Q E s) : Go G .next s := h.1 s k
theorem go_ret {v : Value} (h : GoIs G M A env rest Q E) (k : Q (.ret v) s) : Go G (.ret v) s := h.2 _ s (by simp) k
theorem go_cont (h : GoIs G M A env rest Q E) (k : Q .cont s) : Go G .cont s := h.2 _ s (by simp) k
theorem go_brk (h : GoIs G M A env rest Q E) (k : Q .brk s) : Go G .brk s := h.2 _ s (by simp) k
end
theorem go_next_S {G : Flow → Shared → Prop} {M : Model} {A : Around} {env : Env} {rest : List Stmt} {Q : Flow → Shared → Prop} {E : Value → Shared → Prop} {h' : Heap} {g : Array GenState} {d : Drawn} {t : Nat} {o : OsState} (h : GoIs G M A env rest Q E) (k : ∀ t', wpAny M A (execs rest env) Q E ⟨h', g, d, t', o⟩) : Go G .next ⟨h', g, d, t, o⟩ := h.1 _ (k t)
theorem room_a {dp a D B : Nat} (hd : dp + D < B) (h : Nat.ble a D = true) : dp + a < B := by have := Nat.le_of_ble_eq_true h; omega
theorem room_b {dp k a D B : Nat} (hd : dp + D < B) (h : Nat.ble (k + a) D = true) : dp + k + a < B := by have := Nat.le_of_ble_eq_true h; omega
theorem room_c {dp k j a D B : Nat} (hd : dp + D < B) (h : Nat.ble (k + j + a) D = true) : dp + k + j + a < B := by have := Nat.le_of_ble_eq_true h; omega
theorem hideG {G : Prop} (h : ∀ b : Prop, (G → b) → b) : G := h G id
theorem exR {α : Sort _} {b : Prop} (x : α) (k : ∀ R, R = x → b) : b := k x rfl
theorem exI {α : Type _} {b : Prop} {l : List α} {i : Nat} (h : i < l.length) (k : ∀ q, l[i]? = some q → b) : b := k _ (List.getElem?_eq_getElem h)
theorem hen_ex {α : Type} (a : α) (P : α → Prop) : ∃ k, P k → ∀ x, P x := by
  by_cases h : ∃ x, ¬ P x
  · obtain ⟨x, hx⟩ := h
    exact ⟨x, fun hp => absurd hp hx⟩
  · exact ⟨a, fun _ x => Classical.byContradiction fun hx => h ⟨x, hx⟩⟩
noncomputable def henk {α : Type} (a : α) (P : α → Prop) : α := Classical.choose (hen_ex a P)
theorem henk_all {α : Type} {a : α} {P : α → Prop} (h : P (henk a P)) : ∀ x, P x := Classical.choose_spec (hen_ex a P) h
noncomputable def hen_a : Around := { handled := none, depth := 0, frames := none, guards := none, units := 0 }
noncomputable def hen_s : Shared := { heap := default, gens := #[], drawn := {}, toks := 0, os := default }
end Lw
end
example : True := by k_with_none; w_top off; trivial
section
open PySem PySem.W PyProof.Rows
namespace Lw
example : True := by
  k_with_none
  k_with "omega" => ((fail_if_success (fail_if_success (omega (config := {})))); first | lia | omega (config := {}))
  trivial
open PySem.Calls
theorem all_gt {news : List (Addr × Obj)} {L d : Addr} (l : ∀ p ∈ news, p.1 < L) (h : @LE.le Nat instLENat L d) : ∀ p ∈ news, p.1 ≠ d := fun p hp => Nat.ne_of_lt (Nat.lt_of_lt_of_le (l p hp) h)
section
variable {prog : Program} {w : World} {A : Around} {E : Value → Shared → Prop} {s : Shared} {h₀ : Heap} {L : Addr} {m : Str → Option Value} {env : Env}
theorem compEnd_mono {s₁ : Shared} {I C D : Addr} {oI oC oD : Obj} {S : List (Addr × Obj) → Prop} {r r' : Value → List (Addr × Obj) → Prop} {y : Value} {s₂ : Shared} (h : LCg.CompEnd h₀ L m s₁ I oI C oC D oD S r y s₂) (k : ∀ y nw, r y nw → r' y nw) : LCg.CompEnd h₀ L m s₁ I oI C oC D oD S r' y s₂ := by
  obtain ⟨h', tk, nw, e, F, N, o, hS, hr⟩ := h
  exact ⟨h', tk, nw, e, F, N, o, hS, k _ _ hr⟩
theorem rest_inv {elt : PySem.Expr} {x : Str} {scope : Scope} {cl : List (Str × Addr)} {S : List (Addr × Obj) → Prop} {P : Nat → Value → Prop} {Fin : List Value → List (Addr × Obj) → Prop} (J : Nat → List Value → List (Addr × Obj) → Prop) {n : Nat}
    (turn : ∀ i ys news v I oI C oC D m₂ h tk (E' : Value → Shared → Prop), i < n → J i ys news → P i v → LCg.NsObj oC m₂ → m₂ x = some v → Fr h₀ L h m → News h₀ L h ((I, oI) :: (C, oC) :: (D, LCg.lst ys) :: news) → LCg.Off3 I C D news → ((@Ne Nat I C) ∧ (@Ne Nat I D) ∧ (@Ne Nat C D)) →
      wpAny (model prog w) A (eval elt (compEnvC scope cl C env)) (LCg.CompEnd h₀ L m { s with heap := h, toks := tk } I oI C oC D (LCg.lst ys) S (fun y news' => J (i + 1) (ys ++ [y]) news')) E' { s with heap := h, toks := tk })
    (fin : ∀ ys news, J n ys news → Fin ys news) : ∀ k i ys news, i + k = n → J i ys news → LCg.CompRest prog w A h₀ L m env elt x scope cl s S P Fin k i ys news
  | 0, i, ys, news, e, j => LCg.CompRest.zero (fin ys news (by rw [← e]; exact j))
  | k + 1, i, ys, news, e, j => LCg.CompRest.succ fun v I oI C oC D m₂ h tk E' hP hC hx F N off ne =>
      wpAny_mono (turn i ys news v I oI C oC D m₂ h tk E' (by omega) j hP hC hx F N off ne) (fun y s₂ h₂ => compEnd_mono h₂ fun y nw j' => rest_inv J turn fin k (i + 1) _ nw (by omega) j') fun _ _ z => z
theorem ld_cell {M : Model} {C : Addr} {scope : Scope} {cl : List (Str × Addr)} {news : List (Addr × Obj)} {x : Str} {pos : Pos} {v : Value} {c : Addr} {o : Obj} {Q : Value → Shared → Prop} (N : News h₀ L s.heap news) (hc : cl.lookup x = some c) (hm : (c, o) ∈ news) (hd : o.data = .cell (some v)) (h : Q v s)
    (hk : (compEnvC scope cl C env).scope.kind = .function := by rfl) (hx : (compEnvC scope cl C env).kindOf x = some .cell := by rfl) (hb : (x == ("__debug__" : Str)) = false := by decide) :
    wpAny M A (eval (.Name x pos) (compEnvC scope cl C env)) Q E s := wpAny_Name (wpAny_loadName_cell hk hx hc ⟨o, N.get hm, hd⟩ h) hb
theorem rest_quiet {elt : PySem.Expr} {x : Str} {scope : Scope} {cl : List (Str × Addr)} {S : List (Addr × Obj) → Prop} {P : Nat → Value → Prop} {Fin : List Value → List (Addr × Obj) → Prop} {n : Nat} {news : List (Addr × Obj)} (R : Nat → Value → Prop)
    (turn : ∀ i v, i < n → P i v → ∀ ys I oI C oC D m₂ h tk (E' : Value → Shared → Prop), LCg.NsObj oC m₂ → m₂ x = some v → Fr h₀ L h m → News h₀ L h ((I, oI) :: (C, oC) :: (D, LCg.lst ys) :: news) → LCg.Off3 I C D news → ((@Ne Nat I C) ∧ (@Ne Nat I D) ∧ (@Ne Nat C D)) →
      wpAny (model prog w) A (eval elt (compEnvC scope cl C env)) (LCg.CompEnd h₀ L m { s with heap := h, toks := tk } I oI C oC D (LCg.lst ys) S (fun y news' => news' = news ∧ R i y)) E' { s with heap := h, toks := tk })
    (fin : ∀ ys, ys.length = n → (∀ i y, ys[i]? = some y → R i y) → Fin ys news) : LCg.CompRest prog w A h₀ L m env elt x scope cl s S P Fin n 0 [] news :=
  rest_inv (fun i ys nw => nw = news ∧ ys.length = i ∧ ∀ j y, ys[j]? = some y → R j y) (n := n)
    (fun i ys nw v I oI C oC D m₂ h tk E' hi hj hP hC hx F N off ne => by
      obtain ⟨rfl, hl, hr⟩ := hj
      refine wpAny_mono (turn i v hi hP ys I oI C oC D m₂ h tk E' hC hx F N off ne) (fun y s₂ h₂ => compEnd_mono h₂ fun y nw' j' => ⟨j'.1, by simp [hl], fun j z hz => ?_⟩) fun _ _ z => z
      by_cases c : j < ys.length
      · rw [List.getElem?_append_left c] at hz; exact hr j z hz
      · have : j = i := by
          have := (List.getElem?_eq_some_iff.mp hz).1
          simp at this
          omega
        subst this
        rw [← hl] at hz
        simp at hz
        subst hz
        exact j'.2)
    (fun ys nw j => by obtain ⟨rfl, hl, hr⟩ := j; exact fin ys hl hr) n 0 [] news (Nat.zero_add _) ⟨rfl, rfl, fun j y hy => by simp at hy⟩
noncomputable def Stop (p : Prop) : Prop := p
theorem stopAt0 {α : Type} {M : Model} {A : Around} {t : Sem α} {Q : α → Shared → Prop} {E : Value → Shared → Prop} {s : Shared} (h : Stop (wpAny M A t Q E s)) : wpAny M A t Q E s := h
theorem ListComp_W {elt iter : PySem.Expr} {x : Str} {px : Pos} {scope : Scope} {cl : List (Str × Addr)} {pos : Pos} {Q : Value → Shared → Prop} (F₀ : Fr h₀ L s.heap m)
    (hclos : closureFor scope env = pure cl) (hcell : ∀ y ∈ scope.names, y.2 ≠ .cell) (hkind : scope.kind = .function)
    (hnames : ∀ y ∈ scope.names, y.2 = .local → scope.names.lookup y.1 = some .local) (hx : scope.names.lookup x = some .local)
    (h : wpAny (model prog w) A (eval iter env) (fun v s => Stop (LCg.CompSrc prog w A h₀ L m env elt x scope cl (fun s₂ => LCg.FinE h₀ L m s₂ Q) v s)) E s)
    (hs : ∀ x, foldedSetIterable iter env x = pure x := by intro _; rfl) :
    wpAny (model prog w) A (eval (.ListComp elt [⟨.Name x px, iter, [], 0⟩] scope pos) env) Q E s := LCg.ListComp_U F₀ hclos hcell hkind hnames hx h hs
end
theorem strs_of {α : Type} {g : α → Str} : ∀ {as : List α} {ys : List Value}, ys.length = as.length → (∀ (i : Nat) (y : Value), ys[i]? = some y → ∃ k u, as[i]? = some k ∧ y = Value.str (g k) u) → ∃ ls : List (Str × Tok), ys = strValues ls ∧ ls.map (·.1) = as.map g
  | [], [], _, _ => ⟨[], rfl, rfl⟩
  | [], _ :: _, h, _ => by simp at h
  | _ :: _, [], h, _ => by simp at h
  | a :: as, y :: ys, h, k => by
    obtain ⟨ls, e1, e2⟩ := strs_of (as := as) (ys := ys) (by simpa using h) fun i z hz => by simpa using k (i + 1) z (by simpa using hz)
    obtain ⟨k', u, e3, e4⟩ := k 0 y rfl
    simp at e3
    subst e3
    refine ⟨(g a, u) :: ls, ?_, by simp [e2]⟩
    rw [e4, e1]
    rfl
theorem sum_le {b : Nat} : ∀ {ys : List Str}, (∀ y ∈ ys, y.length ≤ b) → (ys.map (·.length)).sum ≤ ys.length * b
  | [], _ => by simp
  | y :: r, h => by
    have h1 := h y (.head _)
    have h2 := sum_le (ys := r) fun z hz => h z (.tail _ hz)
    simp only [List.map_cons, List.sum_cons, List.length_cons, Nat.succ_mul]
    omega
noncomputable def Cut1 (R : Value → Prop) (s : Shared) (v : Value) (s' : Shared) : Prop := R v ∧ ∃ tk, s' = { s with toks := tk }
theorem cut_val {M : Model} {A : Around} {E : Value → Shared → Prop} {s : Shared} {t : Sem Value} {Q : Value → Shared → Prop} (R : Value → Prop) (h1 : wpAny M A t (Cut1 R s) E s) (h2 : ∀ v tk, R v → Q v { s with toks := tk }) : wpAny M A t Q E s :=
  wpAny_mono h1 (fun v s' ⟨r, tk, e⟩ => e ▸ h2 v tk r) fun _ _ y => y
section
variable {prog : Program} {w : World} {A : Around} {E : Value → Shared → Prop} {s : Shared} {h₀ : Heap} {L : Addr} {m : Str → Option Value} {env : Env}
theorem restT_inv {ct elt : PySem.Expr} {x : Str} {scope : Scope} {cl : List (Str × Addr)} {S : List (Addr × Obj) → Prop} {P : Nat → Value → Prop} {Fin : List Value → List (Addr × Obj) → Prop} (J : Nat → List Value → Prop) {n : Nat} {news : List (Addr × Obj)}
    (turn : ∀ i v, i < n → P i v → ∀ ys, J i ys → ∀ I oI C oC D m₂ h tk (E' : Value → Shared → Prop), LCg.NsObj oC m₂ → m₂ x = some v → Fr h₀ L h m → News h₀ L h ((I, oI) :: (C, oC) :: (D, LCg.lst ys) :: news) → LCg.Off3 I C D news → ((@Ne Nat I C) ∧ (@Ne Nat I D) ∧ (@Ne Nat C D)) →
      wpAny (model prog w) A (isTrue ct (compEnvC scope cl C env) (eval ct (compEnvC scope cl C env))) (fun ok s' => if ok = true then
        wpAny (model prog w) A (eval elt (compEnvC scope cl C env)) (LCg.CompEnd h₀ L m { s with heap := h, toks := tk } I oI C oC D (LCg.lst ys) S (fun y news' => news' = news ∧ J (i + 1) (ys ++ [y]))) E' s'
        else LCg.CompEnd h₀ L m { s with heap := h, toks := tk } I oI C oC D (LCg.lst ys) S (fun _ news' => news' = news ∧ J (i + 1) ys) Value.none s') E' { s with heap := h, toks := tk })
    (fin : ∀ ys, J n ys → Fin ys news) : ∀ k i ys, i + k = n → J i ys → LCt.CompRestT prog w A h₀ L m env ct elt x scope cl s S P Fin k i ys news
  | 0, i, ys, e, j => LCt.CompRestT.zero (fin ys (by rw [← e]; exact j))
  | k + 1, i, ys, e, j => LCt.CompRestT.succ fun v I oI C oC D m₂ h tk E' hP hC hx F N off ne =>
      wpAny_mono (turn i v (by omega) hP ys j I oI C oC D m₂ h tk E' hC hx F N off ne) (fun ok s₂ h₂ => by
        cases ok with
        | true =>
          simp only [if_true] at h₂ ⊢
          exact wpAny_mono h₂ (fun y s₃ h₃ => compEnd_mono h₃ fun y nw ⟨e', j'⟩ => e' ▸ restT_inv J turn fin k (i + 1) _ (by omega) j') fun _ _ z => z
        | false =>
          simp only [Bool.false_eq_true, if_false] at h₂ ⊢
          exact compEnd_mono h₂ fun y nw ⟨e', j'⟩ => e' ▸ restT_inv J turn fin k (i + 1) _ (by omega) j') fun _ _ z => z
theorem Assign_ListComp_TW {ct elt iter : PySem.Expr} {x y : Str} {px py : Pos} {scope : Scope} {cl : List (Str × Addr)} {pos spos : Pos} {Q : Flow → Shared → Prop} (F₀ : Fr h₀ L s.heap m) (hLe : env.locals = L)
    (hsw : swapsWith (.ListComp elt [⟨.Name x px, iter, [ct], 0⟩] scope pos) (some (.Name y py)) spos.line env = pure true)
    (hclos : closureFor scope env = pure cl) (hcell : ∀ z ∈ scope.names, z.2 ≠ .cell) (hkind : scope.kind = .function)
    (hnames : ∀ z ∈ scope.names, z.2 = .local → scope.names.lookup z.1 = some .local) (hx : scope.names.lookup x = some .local)
    (hy : env.kindOf y = some .local) (hp : (env.scope.kind == .class || (env.scope.kind == .module && env.locals != env.globals)) = false)
    (h : wpAny (model prog w) A (eval iter env) (fun v s => Stop (LCt.CompSrcT prog w A h₀ L m env ct elt x scope cl (fun s₂ => LCg.FinA h₀ L m s₂ y Q) v s)) E s)
    (hs : ∀ x, foldedSetIterable iter env x = pure x := by intro _; rfl) :
    wpAny (model prog w) A (exec (.Assign [.Name y py] (.ListComp elt [⟨.Name x px, iter, [ct], 0⟩] scope pos) spos) env) Q E s := LCt.Assign_ListComp_T F₀ hLe hsw hclos hcell hkind hnames hx hy hp h hs
end
theorem intsAre_nil {ns : List Int} {ys : List Value} (h : IntsAre ys ns) (e : (!ys.toArray.isEmpty) = false) : ys = [] ∧ ns = [] := by
  cases h with
  | nil => exact ⟨rfl, rfl⟩
  | cons n t h => simp at e
theorem intsAre_cons {ns : List Int} {ys : List Value} (h : IntsAre ys ns) (e : (!ys.toArray.isEmpty) = true) : ∃ k t ys' ns', ys = .int k t :: ys' ∧ ns = k :: ns' ∧ IntsAre ys' ns' := by
  cases h with
  | nil => simp at e
  | cons n t h => exact ⟨_, _, _, _, rfl, rfl, h⟩
noncomputable def Cut2 (c : Bool) (s : Shared) (b : Bool) (s' : Shared) : Prop := b = c ∧ ∃ tk, s' = { s with toks := tk }
theorem IfExp_const {M : Model} {A : Around} {E : Value → Shared → Prop} {s : Shared} {env : Env} {test : PySem.Expr} {x y z : Str} {k1 k2 : Nat} {p1 p2 pos : Pos} {Q : Value → Shared → Prop} (c : Bool) (h1 : wpAny M A (isTrue test env (eval test env)) (Cut2 c s) E s) (hz : z = if c = true then x else y)
    (h : ∀ t tk, Q (.str z t) { s with toks := tk }) : wpAny M A (eval (.IfExp test (.Constant (.str x) k1 p1) (.Constant (.str y) k2 p2) pos) env) Q E s := by
  refine wpAny_IfExp (wpAny_mono h1 (fun b s' ⟨e, tk, e'⟩ => ?_) fun _ _ y => y)
  subst e e' hz
  cases b with
  | true => exact wpAny_Constant_str (h _ _)
  | false => exact wpAny_Constant_str (h _ _)
theorem allLt_mem {d : Addr} : ∀ {l : List (Addr × Obj)}, AllLt d l → ∀ p ∈ l, p.1 < d
  | [], _, _, h => nomatch h
  | _ :: _, x, p, h => by
    rcases List.mem_cons.mp h with rfl | h
    · exact x.1
    · exact allLt_mem x.2 p h
noncomputable abbrev nwHead {g h : Heap} {L a : Addr} {o : Obj} {l : List (Addr × Obj)} (_ : News g L h ((a, o) :: l)) : Addr := a
noncomputable abbrev nwHead2 {g h : Heap} {L a b : Addr} {o o' : Obj} {l : List (Addr × Obj)} (_ : News g L h ((a, o) :: (b, o') :: l)) : Addr := b
theorem ne_of_lts {R : Addr} {l : List (Addr × Obj)} (h : ∀ p ∈ l, p.1 < R) : ∀ p ∈ l, p.1 ≠ R := fun p hp => Nat.ne_of_lt (h p hp)
end Lw
end
example : True := by k_with_none; w_top off; trivial
section
open PySem PySem.W PyProof.Rows
namespace Lw
example : True := by
  k_with_none
  k_with "omega" => ((fail_if_success (fail_if_success (omega (config := {})))); first | lia | omega (config := {}))
  k_with "callWith ref" => ((k_here; k_dflt (refine' callWith_K ?kAw90 ?kBw90 ?_; (case kAw90 => k_asm); (case kBw90 => k_is); k_whole)))
  k_with "eval Name" => ((k_here; (fail_if_success (with_reducible show wpAny _ _ (eval (Expr.Name _ _) (compEnvC _ _ _ _)) _ _ _)); k_dflt (first | (refine' nameX_L ?Fw91 ?vw91 ?_ ?aw91 ?bw91; (case bw91 => rfl); (case Fw91 => k_asm); (case aw91 => rfl); (case vw91 => rfl); k_whole) | (refine' nameX_C ?Nw92 ?cw92 ?mw92 ?dw92 ?_ ?aw92 ?bw92; (case bw92 => rfl); (case aw92 => rfl); (case Nw92 => k_asm); (case cw92 => rfl); (case mw92 => k_mem); (case dw92 => k_asm); k_whole) | (refine' nameX_K ?Fw93 ?Xw93 ?Tw93 ?ew93 ?_ ?aw93 ?bw93; (case bw93 => rfl); (case Fw93 => k_asm); (case Xw93 => k_asm); (case Tw93 => k_asm); (case aw93 => rfl); (case ew93 => k_is); k_whole) | (refine' nameX_B ?Fw94 ?Xw94 ?Tw94 ?ew94 ?vw94 ?nw94 ?_ ?aw94 ?bw94; (case bw94 => rfl); (case Fw94 => k_asm); (case Xw94 => k_asm); (case Tw94 => k_asm); (case aw94 => rfl); (case ew94 => k_is); (case vw94 => boot_fast); (case nw94 => decide); k_whole))))
  k_with "execs cons" => ((k_here; refine execs_G ?_; intro G9w hG9w))
  k_with "Go" => (((try dsimp only); first | (refine go_next_S (by with_reducible assumption) ?_; intro tSw) | refine go_ret (by with_reducible assumption) ?_ | refine go_cont (by with_reducible assumption) ?_ | refine go_brk (by with_reducible assumption) ?_))
  k_with "k_ne" => ((with_reducible first | assumption | exact Ne.symm (by assumption) | exact Nat.ne_of_lt (by assumption) | exact Ne.symm (Nat.ne_of_lt (by assumption)) | fail "k_ne"))
  k_with "ktr_room" => (first | exact room_a (by with_reducible assumption) rfl | exact room_b (by with_reducible assumption) rfl | exact room_c (by with_reducible assumption) rfl | fail "room")
  k_with "ktr_units" => (first | exact room_a (by with_reducible assumption) rfl | exact room_b (by with_reducible assumption) rfl | exact room_c (by with_reducible assumption) rfl | fail "room")
  k_with "k_room" => (ktr_room)
  k_with "k_all" => (first | with_reducible assumption | exact all_gt (by assumption) (by ((try dsimp only); omega)))
  k_with "k_mem" => (assumption)
  k_with "eval ListComp" => ((k_here; k_dflt (refine ListComp_W (F₀ := by k_asm) (by rfl) (by decide) (by rfl) (by decide) (by rfl) ?_)))
  k_with "eval Name" => ((k_here; (with_reducible show wpAny _ _ (eval (Expr.Name _ _) (compEnvC _ _ _ _)) _ _ _); k_dflt (refine ld_cell (by k_asm) (by rfl) (by k_mem) (by assumption) ?_)))
  trivial
noncomputable def signF (x : Str) (k : Int) : Str := Txt.slice x (some (k.fmod (x.length + 1))) (some (k.fmod (x.length + 1) + 1))
noncomputable def textF (x : Str) (ns : List Int) : Str := Txt.join (Str.ofString "") (ns.map (signF x))
theorem signF_le {x : Str} {k : Int} : (signF x k).length ≤ x.length := by
  unfold signF
  exact Txt.slice_le _ _ _
theorem text_fits {x : Str} {ns : List Int} {ls : List (Str × Tok)} (h : ls.map (·.1) = ns.map (signF x)) (hn : ns.length ≤ 1000) (hx : x.length ≤ 1000) : JoinOk (Str.ofString "") (ns.map (signF x)) = true := by
  refine joinOk_of ?_
  have h1 := sum_le (ys := ns.map (signF x)) (b := 1000) fun y hy => by
    obtain ⟨k, _, rfl⟩ := List.mem_map.mp hy
    exact Nat.le_trans signF_le hx
  have e : (Str.ofString "").length = 0 := by decide
  rw [e]
  simp only [List.length_map] at h1 ⊢
  omega
theorem text_call (prog : Program) (w : World) (news : List (Addr × Obj)) (la : Addr) (c₀ : Nat) (vs : List Value) (ns : List Int) (x : Str) (t : Tok) (hm : (la, ({ cls := .type "list", data := .seq vs.toArray c₀ } : Obj)) ∈ news) (hv : IntsAre vs ns) (hn : ns.length ≤ 1000) (hx : x.length ≤ 1000) : Comes prog w 3 40 154 news [.ref la, .str x t] (fun v nw => nw = [] ∧ ∃ u, v = .str (textF x ns) u) := by
  unfold Comes
  intro p loose mean mg mb dp un gd cn cs a ccd cl outer A₀ base h₀ L m s Q E B F X N T hk hd hu hret
  refine hideG ?_
  intro b9 hb9
  rcases cs with ⟨ck, cnm, cig, cic, cmo⟩
  refine hb9 ?_
  clear hb9 b9
  cases hk
  refine wpAny_call ?_
  k_enter
  k_steps
  show LCg.CompSrc _ _ _ _ _ _ _ _ _ _ _ _ _ _
  refine LCg.CompSrc.ledger (by rfl) (by k_asm) (by k_asm) (by k_mem) (by rw [List.size_toArray, hv.length]; size_fits) ?_
  intro g9
  refine rest_quiet (fun i y => ∃ k u, ns[i]? = some k ∧ y = Value.str (signF x k) u) ?_ ?_
  · intro i v hi hP
    refine hideG ?_
    intro b9 hb9
    rcases IntsAre.at hv i v (by simpa using hP) with ⟨k, u, rfl, hk⟩
    refine hb9 ?_
    clear hb9 b9
    intro ys I' oI' C' oC' D' m' h' tk' E' hC' hx' F' N' off' ne'
    k_steps
    exact LCg.CompEnd.intro (by assumption) (by assumption) _ (fun p hp => hp) (by assumption) (Or.inr ⟨_, by k_mem, rfl, _, rfl⟩) ⟨rfl, _, _, hk, rfl⟩
  · intro ys hl hr D' h' tk' F' N' o1'
    obtain ⟨ls, rfl, hls⟩ := strs_of (by rw [hl, List.size_toArray, hv.length]) hr
    (k_with "call builtin:str.join" => (k_here; k_dflt (refine' SC.join (News.isList (by k_asm) (List.Mem.head _)) hls (text_fits hls hn hx) ?_); intro t' tk'))
    k_steps
    exact hret _ [] _ _ ⟨rfl, _, rfl⟩ (by assumption) (KStt.news_of (by assumption) fun p hp => .tail _ (.tail _ (.tail _ hp)))
end Lw
end
example : True := by k_with_none; w_top off; trivial
section
open PySem PySem.W PyProof.Rows
namespace Lw
example : True := by
  k_with_none
  k_with "omega" => ((fail_if_success (fail_if_success (omega (config := {})))); first | lia | omega (config := {}))
  trivial
open PySem.Builtin PySem.Builtin.Str
noncomputable def On (s s' : Shared) : Prop := ∃ h' tk, s' = { s with heap := h', toks := tk } ∧ ∀ b o, s.heap.get? b = some o → h'.get? b = some o
theorem On.rfl' (s : Shared) : On s s := ⟨s.heap, s.toks, rfl, fun _ _ e => e⟩
theorem On.trans {a b c : Shared} (x : On a b) (y : On b c) : On a c := by
  obtain ⟨h1, t1, rfl, k1⟩ := x
  obtain ⟨h2, t2, rfl, k2⟩ := y
  exact ⟨h2, t2, rfl, fun b o e => k2 b o (k1 b o e)⟩
section
variable {prog : Program} {w : World} {A : Around} {E : Value → Shared → Prop} {s : Shared} {d : Addr} {f : Int → Option Value}
theorem look_miss {c : Nat} {Q : Mapped → Shared → Prop} (hh : A.handled = none) (hd : (d == sysModules) = false) (hm : s.heap.MapOf (intKind prog w) d f) (hf : f c = none) (h : ∀ s', On s s' → Q .keep s') :
    wpAny (model prog w) A (tableLookup (.ref d) c) Q E s := by
  unfold tableLookup
  refine wpAny_bind (wpAny_attempt (wpAny_bind (wpAny_mkInt ?_)))
  refine wpAny_getItem_missing_of (k := (c : Int)) (intKind_is prog w _ _) hd hh hm hf fun h' e x => ?_
  dsimp only
  have hT : Shared.TypeIs { s with heap := h', toks := s.toks + 1 + 1 } (.ref e) "KeyError" := by
    obtain ⟨ob, t, he, hc, _⟩ := x.there
    exact ⟨ob, he, hc⟩
  refine wpAny_bind (wpAny_isInstance hT (b := true) (by rw [isSubtype_type]; kernel_rfl) ?_)
  simp only [if_true]
  exact wpAny_bind (wpAny_rule (wpAny_pure (h _ ⟨h', _, rfl, x.keeps⟩)))
theorem look_hit {c : Nat} {x : Str} {t : Tok} {Q : Mapped → Shared → Prop} (hm : s.heap.MapOf (intKind prog w) d f) (hf : f c = some (.str x t)) (h : ∀ s', On s s' → Q (.text x) s') :
    wpAny (model prog w) A (tableLookup (.ref d) c) Q E s := by
  unfold tableLookup
  refine wpAny_bind (wpAny_attempt (wpAny_bind (wpAny_mkInt ?_)))
  refine wpAny_getItem_of (k := (c : Int)) (intKind_is prog w _ _) hm hf ?_
  dsimp only
  refine wpAny_bind (wpAny_of_eq (a := none) (by rfl) ?_)
  refine wpAny_bind (wpAny_of_eq (a := some x) (by rfl) ?_)
  exact wpAny_pure (h _ ⟨s.heap, _, rfl, fun _ _ e => e⟩)
noncomputable def escOf (f : Int → Option Value) (c : Nat) : List Nat := match f c with
  | some (.str t _) => t.cps.toList
  | _ => [c]
noncomputable def glue (ps : List Str) : List Nat := (ps.reverse.map fun p => p.cps.toList).flatten
theorem glue_cons (p : Str) (ps : List Str) : glue (p :: ps) = glue ps ++ p.cps.toList := by simp [glue]
theorem foldl_glue (ps : List Str) (a : Array Nat) : (ps.foldl (fun acc p => acc ++ p.cps) a).toList = a.toList ++ (ps.map fun p => p.cps.toList).flatten := by
  induction ps generalizing a with
  | nil => simp
  | cons p r ih => rw [List.foldl_cons, ih]; simp
theorem lookup_mem' {c : Nat} {a : Option Nat} : ∀ {l : List (Nat × Option Nat)}, List.lookup c l = some a → (c, a) ∈ l
  | [], h => by cases h
  | (k, v) :: r, h => by
    rw [List.lookup_cons] at h
    by_cases hk : c = k
    · subst hk; simp at h; subst h; exact .head _
    · have : (c == k) = false := by simpa using hk
      rw [this] at h
      exact .tail _ (lookup_mem' h)
noncomputable def TrI (x : Str) (f : Int → Option Value) (s : Shared) (rest : List Nat) (b : List Str × Nat × Bool × List (Nat × Option Nat) × Bool) (s' : Shared) : Prop :=
  On s s' ∧ (∃ don, x.cps.toList = don ++ rest ∧ glue b.1 = don.flatMap (escOf f) ∧ b.2.1 ≤ 2 * don.length) ∧ (∀ q ∈ b.2.2.2.1, f (q.1 : Int) = none ∧ q.2 = some q.1) ∧ b.2.2.2.2 = false
theorem TrI.put {x : Str} {f : Int → Option Value} {s s' s'' : Shared} {c : Nat} {rest : List Nat} {ps : List Str} {n : Nat} {fa fa' : Bool} {kn kn' : List (Nat × Option Nat)} {p : Str}
    (h : TrI x f s (c :: rest) (ps, n, fa, kn, false) s') (o : On s' s'') (hp : p.cps.toList = escOf f c) (hl : p.length ≤ 2) (hk : ∀ q ∈ kn', f (q.1 : Int) = none ∧ q.2 = some q.1) : TrI x f s rest (p :: ps, n + p.length, fa', kn', false) s'' := by
  obtain ⟨h1, ⟨don, e, g, hn⟩, _, _⟩ := h
  refine ⟨h1.trans o, ⟨don ++ [c], by rw [e]; simp, by rw [glue_cons, g, hp]; simp, ?_⟩, hk, rfl⟩
  dsimp only at hn ⊢
  simp only [List.length_append, List.length_cons, List.length_nil]
  omega
theorem translate_runs {x : Str} {t : Tok} {Q : Fin → Shared → Prop} (hh : A.handled = none) (hd : (d == sysModules) = false) (hm : s.heap.MapOf (intKind prog w) d f) (hx : x.length ≤ 1000)
    (hf : ∀ c v, f c = some v → ∃ t tk, v = .str t tk ∧ t.length = 2) (h : ∀ s' tk, On s s' → Q (.done (.ret (.str ⟨(x.cps.toList.flatMap (escOf f)).toArray⟩ tk))) s') :
    wpAny (model prog w) A («str.translate» ⟨[.str x t, .ref d], []⟩) Q E s := by
  unfold «str.translate»
  refine wpAny_bind (wpAny_of_eq (a := (Value.str x t, x, .ref d)) (by rfl) ?_)
  dsimp only
  have hlen : x.cps.toList.length = x.length := by simp [Str.length]
  refine wpAny_ite ?_
  split
  · rename_i h0
    have h0 : x.length = 0 := by simpa using h0
    refine wpAny_bind (wpAny_rule ?_)
    have e : x.cps.toList = [] := List.eq_nil_of_length_eq_zero (by omega)
    refine wpAny_bind (wpAny_of_eq (a := Value.str x t) (by rfl) ?_)
    have ex : x = ⟨(x.cps.toList.flatMap (escOf f)).toArray⟩ := by
      rw [e]
      obtain ⟨c⟩ := x
      simp at e
      simp [e]
    have := h s t (On.rfl' s)
    rw [← ex] at this
    exact wpAny_pure this
  · refine wpAny_bind (wpAny_forIn_array' _ (TrI x f s) _ (fun c rest b s₁ hI => ?_) (fun b s₁ hI => ?_) _ _ ⟨On.rfl' s, ⟨[], rfl, rfl, Nat.zero_le _⟩, (fun q hq => nomatch hq), rfl⟩)
    · obtain ⟨ps, n, fa, kn, ad⟩ := b
      have had : ad = false := hI.2.2.2
      subst had
      have hkn : ∀ q ∈ kn, f (q.1 : Int) = none ∧ q.2 = some q.1 := hI.2.2.1
      have hn : n ≤ 2000 := by
        obtain ⟨_, ⟨don, e, _, h2⟩, _⟩ := hI
        have : don.length ≤ x.cps.toList.length := by rw [e]; simp
        dsimp only at h2
        omega
      have hm₁ : s₁.heap.MapOf (intKind prog w) d f := by
        obtain ⟨h', tk, rfl, k⟩ := hI.1
        obtain ⟨o, es, ep, e1, e2⟩ := hm
        exact ⟨o, es, ep, k _ _ e1, e2⟩
      have htl : tooLong n = false := by unfold tooLong sizeLine; simp; omega
      dsimp only
      rw [htl]
      simp only [Bool.false_eq_true, if_false]
      have at_ : ∀ {s₂ : Shared}, On s₁ s₂ → s₂.heap.MapOf (intKind prog w) d f := fun o => by
        obtain ⟨h', tk, rfl, k⟩ := o
        obtain ⟨o, es, ep, e1, e2⟩ := hm₁
        exact ⟨o, es, ep, k _ _ e1, e2⟩
      cases hfc : f (c : Int) with
      | none =>
        have hec : (⟨#[c]⟩ : Str).cps.toList = escOf f c := by simp [escOf, hfc]
        have fin : ∀ {s₂ : Shared} {fa' : Bool} {kn' : List (Nat × Option Nat)}, On s₁ s₂ → (∀ q ∈ kn', f (q.1 : Int) = none ∧ q.2 = some q.1) → TrI x f s rest (⟨#[c]⟩ :: ps, n + 1, fa', kn', false) s₂ := fun o hk =>
          hI.put (p := ⟨#[c]⟩) o hec (by simp [Str.length]) hk
        cases fa with
        | false =>
          simp only [Bool.false_eq_true, if_false]
          exact wpAny_bind (look_miss hh hd hm₁ hfc fun s₂ o => wpAny_pure (fin o hkn))
        | true =>
          simp only [if_true]
          cases hl : List.lookup c kn with
          | some a =>
            have := (hkn _ (lookup_mem' hl)).2
            dsimp only at this
            subst this
            exact wpAny_bind (wpAny_pure (wpAny_pure (fin (On.rfl' _) hkn)))
          | none =>
            refine wpAny_bind (look_miss hh hd hm₁ hfc fun s₂ o => ?_)
            refine wpAny_bind (wpAny_pure (wpAny_pure (fin o fun q hq => ?_)))
            rcases List.mem_cons.mp hq with rfl | hq
            · exact ⟨hfc, rfl⟩
            · exact hkn q hq
      | some v =>
        obtain ⟨y, tk, rfl, hy⟩ := hf _ _ hfc
        have hec : y.cps.toList = escOf f c := by simp [escOf, hfc]
        have fin : ∀ {s₂ : Shared} {fa' : Bool}, On s₁ s₂ → TrI x f s rest (y :: ps, n + y.length, fa', kn, false) s₂ := fun o => hI.put (p := y) o hec (by omega) hkn
        cases fa with
        | false =>
          simp only [Bool.false_eq_true, if_false]
          exact wpAny_bind (look_hit hm₁ hfc fun s₂ o => wpAny_pure (fin o))
        | true =>
          simp only [if_true]
          cases hl : List.lookup c kn with
          | some a =>
            have := (hkn _ (lookup_mem' hl)).1
            dsimp only at this
            rw [hfc] at this
            cases this
          | none =>
            refine wpAny_bind (look_hit hm₁ hfc fun s₂ o => ?_)
            have h1 : (y.length == 1 && y.cps.all fun x => decide (x < 128)) = false := by rw [hy]; rfl
            simp only [h1, Bool.false_eq_true, if_false]
            refine wpAny_bind (wpAny_pure (wpAny_bind (wpAny_rule (wpAny_bind (look_hit (at_ o) hfc fun s₃ o' => ?_)))))
            exact wpAny_pure (fin (o.trans o'))
    · obtain ⟨ps, n, fa, kn, ad⟩ := b
      obtain ⟨ho, ⟨don, e, g, hn⟩, _, _⟩ := hI
      dsimp only at hn g ⊢
      have e' : x.cps.toList = don := by rw [e]; simp
      have hn2 : n ≤ 2000 := by rw [e'] at hlen; omega
      have htl : tooLong n = false := by unfold tooLong sizeLine; simp; omega
      rw [htl]
      simp only [Bool.false_eq_true, if_false]
      have hr : (⟨List.foldl (fun acc p => acc ++ p.cps) #[] ps.reverse⟩ : Str) = ⟨(x.cps.toList.flatMap (escOf f)).toArray⟩ := by
        congr 1
        apply Array.toList_inj.mp
        rw [foldl_glue, e']
        simp only [List.nil_append]
        exact g
      rw [hr]
      have hsz : (⟨(x.cps.toList.flatMap (escOf f)).toArray⟩ : Str).length ≤ sizeLine := by
        have h2 : ∀ l : List Nat, (l.flatMap (escOf f)).length ≤ 2 * l.length := by
          intro l
          induction l with
          | nil => simp
          | cons c r ih =>
            simp only [List.flatMap_cons, List.length_append, List.length_cons]
            have : (escOf f c).length ≤ 2 := by
              unfold escOf
              cases hfc : f (c : Int) with
              | none => simp
              | some v =>
                obtain ⟨y, tk, rfl, hy⟩ := hf _ _ hfc
                simp [Str.length] at hy
                simp [hy]
            omega
        have := h2 x.cps.toList
        simp only [Str.length, List.size_toArray]
        unfold sizeLine
        simp only [Str.length] at *
        omega
      unfold retStr
      refine wpAny_bind (wpAny_mkStr ?_ hsz)
      exact wpAny_pure (h _ _ (ho.trans ⟨_, _, rfl, fun _ _ e => e⟩))
theorem call_translate {x : Str} {t : Tok} {Q : Value → Shared → Prop} (hh : A.handled = none) (hd : (d == sysModules) = false) (hm : s.heap.MapOf (intKind prog w) d f) (hx : x.length ≤ 1000)
    (hf : ∀ c v, f c = some v → ∃ t tk, v = .str t tk ∧ t.length = 2) (h : ∀ s' tk, On s s' → Q (.str ⟨(x.cps.toList.flatMap (escOf f)).toArray⟩ tk) s') :
    wpAny (model prog w) A (call (.builtin "str.translate") [.str x t, .ref d]) Q E s :=
  wpAny_call_entry F.slot_str_translate (typeIs_str _ _ _) F.entry_str_translate (translate_runs (A := A.in1) hh hd hm hx hf fun s' tk o => ⟨_, rfl, h s' tk o⟩) (F.args_str_translate_2 _ _)
end
end Lw
end
example : True := by k_with_none; w_top off; trivial
section
open PySem PySem.W PyProof.Rows
namespace Lw
example : True := by
  k_with_none
  k_with "omega" => ((fail_if_success (fail_if_success (omega (config := {})))); first | lia | omega (config := {}))
  k_with "callWith ref" => ((k_here; k_dflt (refine' callWith_K ?kAw90 ?kBw90 ?_; (case kAw90 => k_asm); (case kBw90 => k_is); k_whole)))
  k_with "eval Name" => ((k_here; (fail_if_success (with_reducible show wpAny _ _ (eval (Expr.Name _ _) (compEnvC _ _ _ _)) _ _ _)); k_dflt (first | (refine' nameX_L ?Fw91 ?vw91 ?_ ?aw91 ?bw91; (case bw91 => rfl); (case Fw91 => k_asm); (case aw91 => rfl); (case vw91 => rfl); k_whole) | (refine' nameX_C ?Nw92 ?cw92 ?mw92 ?dw92 ?_ ?aw92 ?bw92; (case bw92 => rfl); (case aw92 => rfl); (case Nw92 => k_asm); (case cw92 => rfl); (case mw92 => k_mem); (case dw92 => k_asm); k_whole) | (refine' nameX_K ?Fw93 ?Xw93 ?Tw93 ?ew93 ?_ ?aw93 ?bw93; (case bw93 => rfl); (case Fw93 => k_asm); (case Xw93 => k_asm); (case Tw93 => k_asm); (case aw93 => rfl); (case ew93 => k_is); k_whole) | (refine' nameX_B ?Fw94 ?Xw94 ?Tw94 ?ew94 ?vw94 ?nw94 ?_ ?aw94 ?bw94; (case bw94 => rfl); (case Fw94 => k_asm); (case Xw94 => k_asm); (case Tw94 => k_asm); (case aw94 => rfl); (case ew94 => k_is); (case vw94 => boot_fast); (case nw94 => decide); k_whole))))
  k_with "execs cons" => ((k_here; refine execs_G ?_; intro G9w hG9w))
  k_with "Go" => (((try dsimp only); first | (refine go_next_S (by with_reducible assumption) ?_; intro tSw) | refine go_ret (by with_reducible assumption) ?_ | refine go_cont (by with_reducible assumption) ?_ | refine go_brk (by with_reducible assumption) ?_))
  k_with "k_ne" => ((with_reducible first | assumption | exact Ne.symm (by assumption) | exact Nat.ne_of_lt (by assumption) | exact Ne.symm (Nat.ne_of_lt (by assumption)) | fail "k_ne"))
  k_with "ktr_room" => (first | exact room_a (by with_reducible assumption) rfl | exact room_b (by with_reducible assumption) rfl | exact room_c (by with_reducible assumption) rfl | fail "room")
  k_with "ktr_units" => (first | exact room_a (by with_reducible assumption) rfl | exact room_b (by with_reducible assumption) rfl | exact room_c (by with_reducible assumption) rfl | fail "room")
  trivial
noncomputable def spEs (P : Params) : Array DictEntry := match (hd.heap_1 P).lookup 58 with
  | some ⟨_, _, .dict es _, _⟩ => es
  | _ => #[]
theorem sp_at (P : Params) : (hd.heap_1 P).lookup 58 = some ⟨.type "dict", none, .dict (spEs P) 24, #[]⟩ := by kernel_rfl
noncomputable def spF (P : Params) (k : Int) : Option Value := findBy Value.isInt (spEs P) k
noncomputable def keyOk (e : DictEntry) : Bool := match e.key with | .int k _ => e.hash == hashInt k | _ => false
noncomputable def valOk (e : DictEntry) : Bool := match e.val with | .str t _ => t.length == 2 | _ => false
theorem sp_keys (P : Params) : ((spEs P).toList.all keyOk && (spEs P).toList.all valOk) = true := by kernel_rfl
theorem sp_map {prog : Program} {w : World} {h : Heap} (X : (hd.heap_1 w.params).In h) : h.MapOf (intKind prog w) 58 (spF w.params) := by
  refine ⟨_, spEs w.params, 24, X _ _ (sp_at _), ⟨rfl, rfl, rfl⟩, rfl, fun e he => ?_, fun k => rfl⟩
  have h1 := (Bool.and_eq_true_iff.mp (sp_keys w.params)).1
  have h2 := List.all_eq_true.mp h1 e (Array.mem_toList_iff.mpr he)
  unfold keyOk at h2
  split at h2
  · rename_i k t hk
    exact ⟨k, by rw [hk]; exact intKind_is prog w k t, beq_iff_eq.mp h2⟩
  · cases h2
theorem sp_val {P : Params} (c : Int) (v : Value) (h : spF P c = some v) : ∃ t tk, v = .str t tk ∧ t.length = 2 := by
  unfold spF findBy at h
  cases hf : (spEs P).find? (fun e => Value.isInt c e.key) with
  | none => rw [hf] at h; cases h
  | some e =>
    rw [hf] at h
    have hm := Array.mem_of_find?_eq_some hf
    have h1 := (Bool.and_eq_true_iff.mp (sp_keys P)).2
    have h2 := List.all_eq_true.mp h1 e (Array.mem_toList_iff.mpr hm)
    obtain rfl : e.val = v := Option.some.inj h
    unfold valOk at h2
    split at h2
    · rename_i t tk hk
      exact ⟨t, tk, hk, beq_iff_eq.mp h2⟩
    · cases h2
noncomputable def escF (P : Params) (x : Str) : Str := ⟨(x.cps.toList.flatMap (escOf (spF P))).toArray⟩
theorem escape_rule {prog : Program} {w : World} {A : Around} {E : Value → Shared → Prop} {s : Shared} {h₀ : Heap} {L : Addr} {m : Str → Option Value} {news : List (Addr × Obj)} {x : Str} {t : Tok} {Q : Value → Shared → Prop}
    (hh : A.handled = none) (Fh : Fr h₀ L s.heap m) (X : (hd.heap_1 w.params).In h₀) (N : News h₀ L s.heap news) (hx : x.length ≤ 1000)
    (h : ∀ h' tk tk', Fr h₀ L h' m → News h₀ L h' news → Q (.str (escF w.params x) tk) { s with heap := h', toks := tk' }) :
    wpAny (model prog w) A (call (.builtin "str.translate") [.str x t, .ref 58]) Q E s := by
  refine call_translate hh (by decide) (sp_map (X.keeps Fh.keep)) hx sp_val fun s' tk o => ?_
  obtain ⟨h', tk', rfl, k⟩ := o
  refine h h' tk tk' ⟨Fh.ns.keeps k, fun b o e => k _ _ (Fh.keep b o e), Fh.above⟩ fun p hp => ?_
  exact ⟨k _ _ (N p hp).1, (N p hp).2.1, (N p hp).2.2⟩
example : True := by
  k_with "k_room" => (ktr_room)
  trivial
theorem method_translate {M : Model} {A : Around} {E : Value → Shared → Prop} {s : Shared} {x : Str} {t : Tok} {pl : Sem Bool} {Q : Value × List Value → Shared → Prop} (h : Q (.builtin "str.translate", [.str x t]) s) :
    wpAny M A (getMethod (.str x t) "translate" pl) Q E s := by
  with_reducible exact GM.of (.str x t) (typeIs_str _ _ _) F.slot_str_translate F.type_str_translate GM.noRef h
example : True := by
  k_with "getMethod str" => (with_reducible refine method_translate ?_)
  k_with "call builtin:str.translate" => ((k_here; k_dflt (refine escape_rule (by rfl) (by k_asm) (by k_asm) (by k_asm) (by assumption) ?_); intro h'w tk'w tk2'w F'w N'w))
  trivial
theorem escape_call (prog : Program) (w : World) (news : List (Addr × Obj)) (x : Str) (t : Tok) (hx : x.length ≤ 1000) : Comes prog w 3 40 68 news [.str x t] (fun v nw => nw = [] ∧ ∃ t', v = .str (escF w.params x) t') := by
  unfold Comes
  intro p loose mean mg mb dp un gd cn cs a ccd cl outer A₀ base h₀ L m s Q E B F X N T hk hd hu hret
  refine wpAny_call ?_
  k_dflt cell_enter
  k_steps
  · exact hret _ [] _ _ ⟨rfl, _, rfl⟩ (by assumption) (by assumption)
end Lw
end
example : True := by k_with_none; w_top off; trivial
section
open PySem PySem.W PyProof.Rows
namespace Lw
theorem slot_map_init : Slot "map" "__init__" "object.__init__" :=
  .of (owner := "object") (n := "__init__") (by rw [typeLookup_type, builtinLookup_eq_fast]; kernel_rfl) (by decide +kernel) (by decide +kernel) (by decide +kernel)
    (by first | exact .inl (by decide +kernel) | exact .inr (by decide +kernel)) (by rw [isSubtype_type]; kernel_rfl)
theorem slot_map_next : Slot "map" "__next__" "map.__next__" :=
  .of (owner := "map") (n := "__next__") (by rw [typeLookup_type, builtinLookup_eq_fast]; kernel_rfl) (by decide +kernel) (by decide +kernel) (by decide +kernel)
    (by first | exact .inl (by decide +kernel) | exact .inr (by decide +kernel)) (by rw [isSubtype_type]; kernel_rfl)
theorem entry_map_next : entryFor table "map.__next__" = some Builtin.«map.__next__» := entryFor_of_tree (by kernel_rfl)
theorem mro_map : mroOf (.type "map") = pure [.type "map", .type "object"] := by rw [mroOf_type]; kernel_rfl
theorem lookup_map_new : typeLookup (.type "map") "__new__" = pure (some (.builtin "map.__new__")) := by rw [typeLookup_type, builtinLookup_eq_fast]; kernel_rfl
theorem called_map : TypeCalled "map" "map.__new__" "object.__init__" :=
  ⟨by decide +kernel, by decide +kernel, ⟨_, _, mro_map⟩, madeBy_type mro_map lookup_map_new (by decide +kernel), by decide +kernel, by rw [isSubtype_type]; kernel_rfl, slot_map_init⟩
theorem typeCall_map_2 (a b : Value) : checkTypeCall "map" ⟨[a, b], []⟩ = pure () := by kernel_rfl
theorem newCall_map_2 (a b : Value) : checkBuiltinCall "map.__new__" ⟨[.type "map", a, b], []⟩ = pure () := by kernel_rfl
theorem entry_map_new : entryFor table "map.__new__" = some Builtin.«map.__new__» := entryFor_of_tree (by kernel_rfl)
theorem args_object_init_3 (a b c : Value) : argsOk "object.__init__" ⟨[a, b, c], []⟩ := by
  unfold argsOk; rw [signature?_of (id := "object.__init__") (n := ['_', '_', 't', 'i', 'n', 'i', '_', '_']) (o := ['t', 'c', 'e', 'j', 'b', 'o']) (by kernel_rfl) F.owner_object]; kernel_rfl
theorem slot_map_iter : Slot "map" "__iter__" "map.__iter__" :=
  .of (owner := "map") (n := "__iter__") (by rw [typeLookup_type, builtinLookup_eq_fast]; kernel_rfl) (by decide +kernel) (by decide +kernel) (by decide +kernel)
    (by first | exact .inl (by decide +kernel) | exact .inr (by decide +kernel)) (by rw [isSubtype_type]; kernel_rfl)
theorem entry_map_iter : entryFor table "map.__iter__" = some Builtin.«dict_keyiterator.__iter__» :=
  entryFor_alias (id' := "dict_keyiterator.__iter__") (by kernel_rfl) (by first | rfl | decide +kernel | (unfold String.splitOn; simp +decide [String.splitOnAux])) (by decide +kernel) (by kernel_rfl)
theorem args_map_next_1 (a : Value) : argsOk "map.__next__" ⟨[a], []⟩ := by
  unfold argsOk; kernel_rfl
theorem sub_map : isSubtype (.type "map") (.type "map") = pure true := by rw [isSubtype_type]; kernel_rfl
noncomputable abbrev itObj (l : Addr) (i : Int) : Obj := { cls := .type "list_iterator", data := .fields #[.ref l, .int i 0] }
noncomputable abbrev tupObj1 (it : Addr) : Obj := { cls := .type "tuple", data := .seq #[.ref it] }
noncomputable abbrev mapObj (T : Addr) (f : Value) : Obj := { cls := .type "map", data := .fields #[.ref T, f] }
open AutoSeq1 (wpAny_loadPart') in
theorem meets_map_new (l : Addr) (items : Array Value) (f : Value) :
    Meets (Builtin.«map.__new__» ⟨[.type "map", f, .ref l], []⟩) (fun _ R s => s.heap.IsList l items ∧
      R (.ok (.ret (.ref ((s.heap.push (itObj l 0)).push (tupObj1 s.heap.objs.size)).objs.size))) { s with heap := ((s.heap.push (itObj l 0)).push (tupObj1 s.heap.objs.size)).push (mapObj (s.heap.push (itObj l 0)).objs.size f) }) :=
  .of_wp fun prog w A R s h => by
    obtain ⟨hp, g, d, tk, os⟩ := s; obtain ⟨hL, h⟩ := h
    have hsub := sub_map
    wp_walk using wpAny_pyIter_list hL
    exact ⟨_, rfl, h⟩
section
variable {prog : Program} {w : World} {A : Around} {E : Value → Shared → Prop} {s : Shared} {h₀ : Heap} {L : Addr} {m : Str → Option Value} {news : List (Addr × Obj)} {Q : Value → Shared → Prop}
theorem call_map_N {l : Addr} {vs : Array Value} {n : Nat} {f : Value} (Fh : Fr h₀ L s.heap m) (N : News h₀ L s.heap news) (hl : (l, ({ cls := .type "list", data := .seq vs n } : Obj)) ∈ news)
    (h : ∀ I T it h', Fr h₀ L h' m → News h₀ L h' ((I, mapObj T f) :: (T, tupObj1 it) :: (it, itObj l 0) :: news) → (∀ p ∈ news, p.1 < it) → it < T → T < I → Q (.ref I) { s with heap := h' }) :
    wpAny (model prog w) A (call (.type "map") [f, .ref l]) Q E s := by
  have hL : s.heap.IsList l vs := ⟨_, (N _ hl).1, rfl, n, rfl⟩
  refine callType_new called_map (by decide) (typeCall_map_2 _ _) (newCall_map_2 _ _) (fun obj => args_object_init_3 obj _ _) entry_map_new (meets_map_new l vs f) ⟨hL, ?_⟩
  have F1 := Fh.push (itObj l 0)
  have N1 := N.push Fh (itObj l 0)
  have F2 := F1.push (tupObj1 s.heap.objs.size)
  have N2 := N1.push F1 (tupObj1 s.heap.objs.size)
  have F3 := F2.push (mapObj (s.heap.push (itObj l 0)).objs.size f)
  have N3 := N2.push F2 (mapObj (s.heap.push (itObj l 0)).objs.size f)
  refine ⟨⟨_, Heap.get?_push_size _ rfl, rfl⟩, h _ _ _ _ F3 N3 (fun p hp => Heap.lt_size (N p hp).1) (by show (_ : Nat) < _; rw [Heap.size_push]; exact Nat.lt_succ_self _) (by show (_ : Nat) < _; rw [Heap.size_push (h := s.heap.push _)]; exact Nat.lt_succ_self _)⟩
end
end Lw
end
example : True := by k_with_none; w_top off; trivial
section
open PySem PySem.W PyProof.Rows
namespace Lw
example : True := by
  k_with_none
  k_with "omega" => ((fail_if_success (fail_if_success (omega (config := {})))); first | lia | omega (config := {}))
  trivial
theorem News.sub {h₀ h : Heap} {L : Addr} {a b : List (Addr × Obj)} (N : News h₀ L h a) (hs : ∀ p ∈ b, p ∈ a) : News h₀ L h b := fun p hp => N p (hs p hp)
theorem News.upd1 {h₀ h h' : Heap} {L a : Addr} {o o' : Obj} {r : List (Addr × Obj)} (N : News h₀ L h ((a, o) :: r)) (hs : Heap.SameBut a h h') (ho : h'.get? a = some o') (hr : ∀ p ∈ r, p.1 ≠ a) : News h₀ L h' ((a, o') :: r) := fun p hp => by
  rcases List.mem_cons.mp hp with rfl | hp
  · exact ⟨ho, (N _ (.head _)).2⟩
  · have := N p (.tail _ hp)
    exact ⟨(hs.2 p.1 (hr p hp)).trans this.1, this.2⟩
theorem Fr.upd1 {h₀ h h' : Heap} {L a : Addr} {m : Str → Option Value} {o : Obj} {r : List (Addr × Obj)} (Fh : Fr h₀ L h m) (N : News h₀ L h ((a, o) :: r)) (hs : Heap.SameBut a h h') : Fr h₀ L h' m := by
  have h1 := N _ (.head _)
  refine ⟨Fh.ns.sameBut hs (Ne.symm h1.2.1), fun b ob e => (hs.2 b fun q => ?_).trans (Fh.keep b ob e), Fh.above⟩
  rw [q, h1.2.2] at e
  cases e
noncomputable def Maps (prog : Program) (w : World) (A : Around) (h₀ : Heap) (L : Addr) (m : Str → Option Value) (f : Value) (Pre : Value → Prop) (P : Value → Value → Prop) (E : Value → Shared → Prop) : Prop :=
  ∀ (news : List (Addr × Obj)) (s : Shared) (v : Value) (Q : Value → Shared → Prop), Pre v → Fr h₀ L s.heap m → News h₀ L s.heap news →
    (∀ r h' tk', P v r → Fr h₀ L h' m → News h₀ L h' news → Q r { s with heap := h', toks := tk' }) → wpAny (model prog w) A (call f [v]) Q E s
section
variable {prog : Program} {w : World} {A : Around} {E : Value → Shared → Prop} {s : Shared} {h₀ : Heap} {L : Addr} {m : Str → Option Value} {news : List (Addr × Obj)}
noncomputable abbrev seqL (vs : Array Value) (n : Nat) : Obj := { cls := .type "list", data := .seq vs n }
noncomputable def IsIt (o : Obj) (l : Addr) (i : Nat) : Prop := o.cls = .type "list_iterator" ∧ o.data = .fields #[.ref l, .int i 0]
theorem map_next_item {Pre : Value → Prop} {I T it l : Addr} {f : Value} {vs : Array Value} {n i : Nat} {x : Value} {o : Obj} {P : Value → Value → Prop} {Q : Option Value → Shared → Prop}
    (hi : vs[i]? = some x) (hpre : Pre x) (ho : IsIt o l i) (Fh : Fr h₀ L s.heap m) (N : News h₀ L s.heap ((it, o) :: (I, mapObj T f) :: (T, tupObj1 it) :: (l, seqL vs n) :: news)) (hd : ∀ p ∈ (I, mapObj T f) :: (T, tupObj1 it) :: (l, seqL vs n) :: news, p.1 ≠ it)
    (C : ∀ E', Maps prog w A.in1 h₀ L m f Pre P E')
    (h : ∀ v h' tk' o', P x v → IsIt o' l (i + 1) → Fr h₀ L h' m → News h₀ L h' ((it, o') :: (I, mapObj T f) :: (T, tupObj1 it) :: (l, seqL vs n) :: news) → Q (some v) { s with heap := h', toks := tk' }) :
    wpAny (model prog w) A (pyNext (.ref I)) Q E s := by
  have gI := (N _ (.tail _ (.head _))).1
  have gT := (N _ (.tail _ (.tail _ (.head _)))).1
  have gl := (N _ (.tail _ (.tail _ (.tail _ (.head _))))).1
  have git := (N _ (.head _)).1
  have hT : s.TypeIs (.ref I) "map" := ⟨_, gI, rfl⟩
  have hit : s.heap.IsListIter it l i := ⟨_, git, ho.1, ho.2⟩
  have hL : s.heap.IsList l vs := ⟨_, gl, rfl, n, rfl⟩
  unfold pyNext
  refine wpAny_bind (wpAny_attempt (wpAny_callSpecial?_slot (name := Str.ofString "__next__") hT slot_map_next (wpAny_call_entry slot_map_next hT entry_map_next ?_ (args_map_next_1 _))))
  show wpAny _ _ (field (.ref I) 0 >>= _) _ _ _
  refine wpAny_bind (wpAny_field gI rfl (x := .ref T) rfl ?_)
  show wpAny _ _ (seqItems? (.ref T) >>= _) _ _ s
  refine wpAny_bind (wpAny_seqItems gT rfl ?_)
  dsimp only
  refine wpAny_bind (wpAny_forIn_array' _ (fun rest b s' => (rest = [.ref it] ∧ b = #[] ∧ s' = s) ∨ (rest = [] ∧ b = #[x] ∧ ∃ h1, s' = { s with heap := h1 } ∧ h1.IsListIter it l (i + 1) ∧ Heap.SameBut it s.heap h1)) _ (fun y rest b s₁ hI => ?_) (fun b s₁ hI => ?_) _ _ (.inl ⟨rfl, rfl, rfl⟩))
  · rcases hI with ⟨e1, rfl, rfl⟩ | ⟨e1, _⟩
    · cases e1
      refine wpAny_bind (wpAny_holding (wpAny_nextOf_list_item hit hL hi fun h1 a1 a2 => wpAny_pure ?_))
      exact .inr ⟨rfl, rfl, h1, rfl, a1, a2⟩
    · cases e1
  · rcases hI with ⟨e1, _⟩ | ⟨_, rfl, h1, rfl, a1, a2⟩
    · cases e1
    obtain ⟨o', b1, b2, b3⟩ := a1
    have N1 := News.upd1 N a2 b1 hd
    have F1 := Fr.upd1 Fh N a2
    have gI1 := (N1 _ (.tail _ (.head _))).1
    refine wpAny_bind (wpAny_field (o := mapObj T f) gI1 rfl (x := f) rfl ?_)
    show wpAny _ _ (holding [x] (call f [x]) >>= _) _ _ _
    refine wpAny_bind (wpAny_holding (C _ _ _ x _ hpre F1 N1 fun r h' tk' hP F2 N2 => ?_))
    exact wpAny_bind (wpAny_letGo (wpAny_pure ⟨r, rfl, wpAny_pure (h r h' tk' o' hP ⟨b2, b3⟩ F2 N2)⟩))
theorem map_next_end {I T it l : Addr} {f : Value} {vs : Array Value} {n : Nat} {o : Obj} {Q : Option Value → Shared → Prop} (hh : A.handled = none)
    (ho : IsIt o l vs.size) (Fh : Fr h₀ L s.heap m) (N : News h₀ L s.heap ((it, o) :: (I, mapObj T f) :: (T, tupObj1 it) :: (l, seqL vs n) :: news)) (hd : ∀ p ∈ (I, mapObj T f) :: (T, tupObj1 it) :: (l, seqL vs n) :: news, p.1 ≠ it)
    (h : ∀ h', Fr h₀ L h' m → News h₀ L h' ((I, mapObj T f) :: (T, tupObj1 it) :: (l, seqL vs n) :: news) → Q none { s with heap := h' }) :
    wpAny (model prog w) A (pyNext (.ref I)) Q E s := by
  have gI := (N _ (.tail _ (.head _))).1
  have gT := (N _ (.tail _ (.tail _ (.head _)))).1
  have gl := (N _ (.tail _ (.tail _ (.tail _ (.head _))))).1
  have git := (N _ (.head _)).1
  have hT : s.TypeIs (.ref I) "map" := ⟨_, gI, rfl⟩
  have hit : s.heap.IsListIter it l vs.size := ⟨_, git, ho.1, ho.2⟩
  have hL : s.heap.IsList l vs := ⟨_, gl, rfl, n, rfl⟩
  have hLne := (N _ (.head _)).2
  unfold pyNext
  refine wpAny_bind (wpAny_attempt (wpAny_callSpecial?_slot (name := Str.ofString "__next__") hT slot_map_next (wpAny_call_entry slot_map_next hT entry_map_next ?_ (args_map_next_1 _))))
  show wpAny _ _ (field (.ref I) 0 >>= _) _ _ _
  refine wpAny_bind (wpAny_field gI rfl (x := .ref T) rfl ?_)
  show wpAny _ _ (seqItems? (.ref T) >>= _) _ _ s
  refine wpAny_bind (wpAny_seqItems gT rfl ?_)
  dsimp only
  refine wpAny_bind (wpAny_forIn_array' _ (fun rest b s' => rest = [.ref it] ∧ b = #[] ∧ s' = s) _ (fun y rest b s₁ hI => ?_) (fun b s₁ hI => ?_) _ _ ⟨rfl, rfl, rfl⟩)
  · obtain ⟨e1, rfl, rfl⟩ := hI
    cases e1
    refine wpAny_bind (wpAny_holding (wpAny_nextOf_list_end (by exact hh) hit hL (by simp) fun h1 e a1 a2 => ?_))
    obtain ⟨oe, c1, c2⟩ := a2
    refine wpAny_bind (wpAny_isInstance (T := "StopIteration") (b := true) ⟨oe, c1, c2⟩ isSubtype_stop ?_)
    refine wpAny_pure (h h1 ⟨?_, ?_, Fh.above⟩ fun p hp => ?_)
    · exact Fh.ns.extBut a1 (Ne.symm hLne.1)
    · intro b ob e'
      exact a1 b ob (fun q => by rw [q, hLne.2] at e'; cases e') (Fh.keep b ob e')
    · have := N p (.tail _ hp)
      exact ⟨a1 _ _ (hd p hp) this.1, this.2⟩
  · cases hI.1
noncomputable def Mapped1 (P : Value → Value → Prop) (vs acc : Array Value) : Prop := acc.size ≤ vs.size ∧ ∀ (j : Nat) (x v : Value), vs[j]? = some x → acc[j]? = some v → P x v
theorem Mapped1.push {P : Value → Value → Prop} {vs acc : Array Value} {x v : Value} (h : Mapped1 P vs acc) (hx : vs[acc.size]? = some x) (hv : P x v) : Mapped1 P vs (acc.push v) := by
  have hlt : acc.size < vs.size := by
    rcases Nat.lt_or_ge acc.size vs.size with q | q
    · exact q
    · rw [Array.getElem?_eq_none q] at hx; cases hx
  refine ⟨by rw [Array.size_push]; exact hlt, fun j y u hy hu => ?_⟩
  rw [Array.getElem?_push] at hu
  split at hu
  · rename_i e
    rw [e, hx] at hy
    cases hy; cases hu
    exact hv
  · exact h.2 j y u hy hu
theorem map_extend {Pre : Value → Prop} {I T it l S : Addr} {f : Value} {vs : Array Value} {n : Nat} {P : Value → Value → Prop} {R : Result → Shared → Prop} (hh : A.handled = none) (hsz : vs.size ≤ 1000) (hpre : ∀ (j : Nat) (x : Value), vs[j]? = some x → Pre x)
    (C : ∀ E', Maps prog w A.in1.in1 h₀ L m f Pre P E')
    (hd : I ≠ it ∧ T ≠ it ∧ l ≠ it ∧ ∀ p ∈ news, p.1 ≠ it) (hS : it ≠ S ∧ I ≠ S ∧ T ≠ S ∧ l ≠ S ∧ ∀ p ∈ news, p.1 ≠ S)
    (h : ∀ h' tk' acc c, acc.size = vs.size → Mapped1 P vs acc → Fr h₀ L h' m → News h₀ L h' ((S, seqL acc c) :: (l, seqL vs n) :: news) → R (.ok (.ret .none)) { s with heap := h', toks := tk' }) :
    ∀ (k : Nat) (s₁ : Shared) (acc : Array Value) (c : Nat) (o : Obj), vs.size - acc.size = k → s₁ = { s with heap := s₁.heap, toks := s₁.toks } → Mapped1 P vs acc → IsIt o l acc.size → Fr h₀ L s₁.heap m →
      News h₀ L s₁.heap ((it, o) :: (I, mapObj T f) :: (T, tupObj1 it) :: (l, seqL vs n) :: (S, seqL acc c) :: news) → codeAny (model prog w) A (.builtin "list.extend.loop" ⟨[.ref S, .ref I, .none], []⟩) R s₁ := by
  intro k
  induction k with
  | zero =>
    intro s₁ acc c o hk hs hM ho Fh N
    have hn : acc.size = vs.size := by have := hM.1; omega
    refine codeAny_builtin F.entry_extend_loop ?_
    rw [Around.under_plainId F.plain_extend_loop _]
    show wpAny _ A.in1 (pyNext (.ref I) >>= _) _ _ s₁
    rw [hn] at ho
    refine wpAny_bind (map_next_end (news := (S, seqL acc c) :: news) (by exact hh) ho Fh N ?_ fun h' F' N' => ?_)
    · intro p hp
      simp only [List.mem_cons] at hp
      rcases hp with rfl | rfl | rfl | rfl | hp
      · exact hd.1
      · exact hd.2.1
      · exact hd.2.2.1
      · exact fun q => hS.1 q.symm
      · exact hd.2.2.2 p hp
    · rw [hs]
      exact wpAny_pure (h h' _ acc c hn hM F' (News.sub N' fun p hp => by simp only [List.mem_cons] at hp ⊢; grind))
  | succ k ih =>
    intro s₁ acc c o hk hs hM ho Fh N
    have hlt : acc.size < vs.size := by omega
    have hx : vs[acc.size]? = some vs[acc.size] := Array.getElem?_eq_getElem hlt
    refine codeAny_builtin F.entry_extend_loop ?_
    rw [Around.under_plainId F.plain_extend_loop _]
    show wpAny _ A.in1 (pyNext (.ref I) >>= _) _ _ s₁
    refine wpAny_bind (map_next_item (news := (S, seqL acc c) :: news) hx (hpre _ _ hx) ho Fh N ?_ C fun v h' tk' o' hP ho' F' N' => ?_)
    · intro p hp
      simp only [List.mem_cons] at hp
      rcases hp with rfl | rfl | rfl | rfl | hp
      · exact hd.1
      · exact hd.2.1
      · exact hd.2.2.1
      · exact fun q => hS.1 q.symm
      · exact hd.2.2.2 p hp
    have gS : h'.get? S = some (seqL acc c) := (N' _ (.tail _ (.tail _ (.tail _ (.tail _ (.head _)))))).1
    show wpAny _ A.in1 (updateSeq S (·.push v) >>= _) _ _ _
    have N2 : News h₀ L h' ((S, seqL acc c) :: (it, o') :: (I, mapObj T f) :: (T, tupObj1 it) :: (l, seqL vs n) :: news) := News.sub N' fun p hp => by simp only [List.mem_cons] at hp ⊢; grind
    have hsb : Heap.SameBut S h' (h'.update S (Obj.mapSeq (·.push v))) := Heap.SameBut.update ..
    have gS' : (h'.update S (Obj.mapSeq (·.push v))).get? S = some (seqL (acc.push v) (c + 1)) := by
      rw [Heap.get?_update_self _ gS rfl]
      simp [Obj.mapSeq]
    have N3 := News.upd1 N2 hsb gS' (fun p hp => by
      simp only [List.mem_cons] at hp
      rcases hp with rfl | rfl | rfl | rfl | hp
      · exact hS.1
      · exact hS.2.1
      · exact hS.2.2.1
      · exact hS.2.2.2.1
      · exact hS.2.2.2.2 p hp)
    have F3 := Fr.upd1 F' N2 hsb
    refine wpAny_bind (wpAny_updateSeq gS rfl (wpAny_pure ⟨plainId_quiet F.plain_extend_loop _, ?_⟩) (by unfold sizeLine; omega) (by show (acc.push v).size ≤ sizeLine + 1; rw [Array.size_push]; unfold sizeLine; omega))
    refine ih _ (acc.push v) (c + 1) o' (by rw [Array.size_push]; omega) (by rw [hs]) (hM.push hx hP) (by rw [Array.size_push]; exact ho') F3 (News.sub N3 fun p hp => by simp only [List.mem_cons] at hp ⊢; grind)
theorem no_len_map : typeLookup (.type "map") "__len__" = pure none := by rw [typeLookup_type, builtinLookup_eq_fast]; kernel_rfl
theorem no_hint_map : typeLookup (.type "map") "__length_hint__" = pure none := by rw [typeLookup_type, builtinLookup_eq_fast]; kernel_rfl
theorem args_map_iter_1 (a : Value) : argsOk "map.__iter__" ⟨[a], []⟩ := by unfold argsOk; kernel_rfl
theorem pyIter_map {I T : Addr} {f : Value} {Q : Value → Shared → Prop} (hI : s.heap.get? I = some (mapObj T f)) (h : Q (.ref I) s) : wpAny (model prog w) A (pyIter (.ref I)) Q E s := by
  have hT : s.TypeIs (.ref I) "map" := ⟨_, hI, rfl⟩
  refine wpAny_pyIter_slot hT slot_map_iter (wpAny_call_entry slot_map_iter hT entry_map_iter ?_ (args_map_iter_1 _))
  show wpAny _ _ (ret (.ref I)) _ _ s
  exact wpAny_pure ⟨_, rfl, "map", _, hT, slot_map_next.lookup, h⟩
theorem list_map_N {Pre : Value → Prop} {I T it l : Addr} {f : Value} {vs : Array Value} {n : Nat} {P : Value → Value → Prop} {Q : Value → Shared → Prop} (hh : A.handled = none) (hsz : vs.size ≤ 1000) (hpre : ∀ (j : Nat) (x : Value), vs[j]? = some x → Pre x)
    (Fh : Fr h₀ L s.heap m) (N : News h₀ L s.heap ((I, mapObj T f) :: (T, tupObj1 it) :: (it, itObj l 0) :: (l, seqL vs n) :: news)) (h1 : it < T) (h2 : T < I) (h3 : l < it) (h4 : ∀ p ∈ news, p.1 < it)
    (C : ∀ E', Maps prog w A.in1.in1.in1 h₀ L m f Pre P E')
    (h : ∀ S h' tk' acc c, acc.size = vs.size → Mapped1 P vs acc → Fr h₀ L h' m → News h₀ L h' ((S, seqL acc c) :: (l, seqL vs n) :: news) → I < S → Q (.ref S) { s with heap := h', toks := tk' }) :
    wpAny (model prog w) A (call (.type "list") [.ref I]) Q E s := by
  refine callType_codes (Q₁ := fun obj s₁ => obj = .ref s.heap.objs.size ∧ s₁ = { s with heap := s.heap.push { cls := .type "list", data := .seq #[] } }) F.called_list (F.typeCall_list_1 _) F.entry_list_init
    (code_list_new _ ⟨rfl, rfl⟩) fun obj s₁ h₁ => ?_
  obtain ⟨rfl, rfl⟩ := h₁
  have hIlt : I < s.heap.objs.size := Heap.lt_size (N _ (.head _)).1
  have hS : (s.heap.push { cls := .type "list", data := .seq #[] }).get? s.heap.objs.size = some (seqL #[] 0) := Heap.get?_push_size _ rfl
  have F1 := Fh.push (seqL #[] 0)
  have N1 := N.push Fh (seqL #[] 0)
  refine ⟨⟨_, hS, rfl⟩, F.args_list_init_2 _ _, ?_⟩
  show wpAny _ _ (do let old ← Builtin.List.listItems (.ref s.heap.objs.size); Builtin.List.listUpdate (.ref s.heap.objs.size) (fun _ => #[]); letGo old.toList.reverse; Builtin.List.listExtendWith (.ref s.heap.objs.size) (.ref I) .none) _ _ _
  refine wpAny_bind ?_
  unfold Builtin.List.listItems
  refine wpAny_bind (wpAny_seqItems hS rfl (wpAny_pure ?_))
  show wpAny _ _ (updateSeq s.heap.objs.size (fun _ => #[]) >>= fun _ => letGo (#[] : Array Value).toList.reverse >>= fun _ => Builtin.List.listExtendWith (.ref s.heap.objs.size) (.ref I) .none) _ _ _
  refine wpAny_bind (wpAny_updateSeq hS rfl ?_)
  have hsb : Heap.SameBut s.heap.objs.size (s.heap.push (seqL #[] 0)) ((s.heap.push (seqL #[] 0)).update s.heap.objs.size (Obj.mapSeq (fun _ => (#[] : Array Value)))) := Heap.SameBut.update ..
  have hS₂ : ((s.heap.push (seqL #[] 0)).update s.heap.objs.size (Obj.mapSeq (fun _ => (#[] : Array Value)))).get? s.heap.objs.size = some (seqL #[] 0) := by
    rw [Heap.get?_update_self _ hS rfl]
    simp [Obj.mapSeq]
  have lt : ∀ p ∈ (I, mapObj T f) :: (T, tupObj1 it) :: (it, itObj l 0) :: (l, seqL vs n) :: news, p.1 ≠ s.heap.objs.size := fun p hp => Nat.ne_of_lt (Heap.lt_size (N p hp).1)
  have N2 := News.upd1 N1 hsb hS₂ lt
  have F2 := Fr.upd1 F1 N1 hsb
  generalize hg : (s.heap.push (seqL #[] 0)).update s.heap.objs.size (Obj.mapSeq (fun _ => (#[] : Array Value))) = g at hS₂ N2 F2
  refine wpAny_bind (wpAny_letGo ?_)
  unfold Builtin.List.listExtendWith
  have gI : g.get? I = some (mapObj T f) := (N2 _ (.tail _ (.head _))).1
  have hT : Shared.TypeIs { s with heap := g } (.ref I) "map" := ⟨_, gI, rfl⟩
  refine wpAny_bind (wpAny_typeOf hT ?_)
  have q1 : Builtin.List.listSameRef (.ref s.heap.objs.size) (.ref I) = false := by
    simp only [Builtin.List.listSameRef, beq_eq_false_iff_ne]
    exact Ne.symm (Nat.ne_of_lt hIlt)
  have q2 : (Value.type "map" == Value.type "list") = false := by decide
  have q3 : (Value.type "map" == Value.type "tuple") = false := by decide
  simp only [q1, q2, q3, Bool.or_false, Bool.false_eq_true, if_false]
  refine wpAny_bind (pyIter_map (T := T) (f := f) gI ?_)
  refine wpAny_bind (wpAny_holding ?_)
  unfold Builtin.List.listLengthHint
  refine wpAny_bind (wpAny_specialOf hT no_len_map ?_)
  show wpAny _ _ (specialOf (Value.ref I) (Str.ofString "__length_hint__") >>= _) _ _ _
  refine wpAny_bind (wpAny_specialOf hT no_hint_map ?_)
  refine wpAny_pure ?_
  show wpAny _ _ (rule "list.extend.makes-room" >>= fun _ => Builtin.List.listTouch (.ref s.heap.objs.size) >>= fun _ =>
    again (.builtin "list.extend.loop" ⟨[.ref s.heap.objs.size, .ref I, .none], []⟩)) _ _ _
  refine wpAny_bind (wpAny_rule ?_)
  refine wpAny_bind ?_
  show wpAny _ _ (updateSeq s.heap.objs.size (·.push .none) >>= fun _ => updateSeq s.heap.objs.size (·.pop)) _ _ _
  refine wpAny_bind (wpAny_updateSeq hS₂ rfl ?_)
  have hb3 : Heap.SameBut s.heap.objs.size g (g.update s.heap.objs.size (Obj.mapSeq (·.push Value.none))) := Heap.SameBut.update ..
  have hS₃ : (g.update s.heap.objs.size (Obj.mapSeq (·.push Value.none))).get? s.heap.objs.size = some (seqL #[.none] 1) := by
    rw [Heap.get?_update_self _ hS₂ rfl]
    simp [Obj.mapSeq]
  have N3 := News.upd1 N2 hb3 hS₃ lt
  have F3 := Fr.upd1 F2 N2 hb3
  refine wpAny_updateSeq hS₃ rfl ?_
  have hb4 : Heap.SameBut s.heap.objs.size (g.update s.heap.objs.size (Obj.mapSeq (·.push Value.none))) ((g.update s.heap.objs.size (Obj.mapSeq (·.push Value.none))).update s.heap.objs.size (Obj.mapSeq (·.pop))) := Heap.SameBut.update ..
  have hS₄ : ((g.update s.heap.objs.size (Obj.mapSeq (·.push Value.none))).update s.heap.objs.size (Obj.mapSeq (·.pop))).get? s.heap.objs.size = some (seqL #[] 2) := by
    rw [Heap.get?_update_self _ hS₃ rfl]
    simp [Obj.mapSeq]
  have N4 := News.upd1 N3 hb4 hS₄ lt
  have F4 := Fr.upd1 F3 N3 hb4
  have dl : ∀ p ∈ news, p.1 ≠ it := fun p hp => Nat.ne_of_lt (h4 p hp)
  refine wpAny_pure ⟨plainId_quiet F.plain_extend_loop _, map_extend (s := s) (A := A.in1) (news := news) (n := n) (vs := vs) (by exact hh) hsz hpre C ⟨Ne.symm (Nat.ne_of_lt (Nat.lt_trans h1 h2)), Ne.symm (Nat.ne_of_lt h1), Nat.ne_of_lt h3, dl⟩
    ⟨lt _ (.tail _ (.tail _ (.head _))), lt _ (.head _), lt _ (.tail _ (.head _)), lt _ (.tail _ (.tail _ (.tail _ (.head _)))), fun p hp => lt p (.tail _ (.tail _ (.tail _ (.tail _ hp))))⟩ (fun h' tk' acc c e1 e2 F5 N5 => ?_)
    vs.size _ #[] 2 (itObj l 0) (by simp) rfl ⟨Nat.zero_le _, fun j x v _ hv => by simp at hv⟩ ⟨rfl, rfl⟩ F4 (News.sub N4 fun p hp => by simp only [List.mem_cons] at hp ⊢; rcases hp with h | h | h | h | h | h <;> simp only [h, true_or, or_true])⟩
  exact ⟨rfl, h _ h' tk' acc c e1 e2 F5 N5 hIlt⟩
end
theorem escape_maps {prog : Program} {w : World} {p : Program} {loose : List Str} {mean : ExcName → Option Value} {mg mb : Str → Option Value} {dp un : Nat} {gd : Option (List Code)} {cn : Str} {cs : Scope} {a : Addr} {ccd : Value} {cl : List (Str × Addr)} {outer : List Env} {A₀ : Around}
    {base h₀ : Heap} {L : Addr} {m : Str → Option Value} (B : Below A₀ base outer h₀) (X : (hd.heap_1 w.params).In h₀) (T : Top p loose mean mg mb h₀) (hk : cs.kind = .function) (hd : dp + 3 < recursionLimit) (hu : un + 43 < cLine) (E : Value → Shared → Prop) :
    Maps prog w (ktrTop dp un gd cn cs L a ccd cl outer).in1.in1.in1 h₀ L m (.ref 68) (fun v => ∃ x t, v = .str x t ∧ x.length ≤ 1000) (fun v r => ∃ x t t', v = .str x t ∧ r = .str (escF w.params x) t') E := by
  rintro news s v Q ⟨x, t, rfl, hx⟩ Fh N h
  refine escape_call prog w news x t hx p loose mean mg mb dp (un + 1 + 1 + 1) gd cn cs a ccd cl outer A₀ base h₀ L m s Q E B Fh X N T hk hd (by omega) ?_
  rintro v nw h' tk' ⟨rfl, t', rfl⟩ F' N'
  exact h _ h' tk' ⟨x, t, t', rfl, rfl⟩ F' N'
theorem escF_length (P : Params) (x : Str) : (escF P x).length ≤ 2 * x.length := by
  have h2 : ∀ l : List Nat, (l.flatMap (escOf (spF P))).length ≤ 2 * l.length := by
    intro l
    induction l with
    | nil => simp
    | cons c r ih =>
      simp only [List.flatMap_cons, List.length_append, List.length_cons]
      have : (escOf (spF P) c).length ≤ 2 := by
        unfold escOf
        cases hfc : spF P (c : Int) with
        | none => simp
        | some v =>
          obtain ⟨y, tk, rfl, hy⟩ := sp_val _ _ hfc
          simp [Str.length] at hy
          simp [hy]
      omega
  have := h2 x.cps.toList
  simp only [escF, Str.length, List.size_toArray]
  simpa [Str.length] using this
theorem list_escape_N {prog : Program} {w : World} {p : Program} {loose : List Str} {mean : ExcName → Option Value} {mg mb : Str → Option Value} {dp un : Nat} {gd : Option (List Code)} {cn : Str} {cs : Scope} {a : Addr} {ccd : Value} {cl : List (Str × Addr)} {outer : List Env} {A₀ : Around}
    {base h₀ : Heap} {L : Addr} {m : Str → Option Value} {E : Value → Shared → Prop} {s : Shared} {Q : Value → Shared → Prop} {I T it l : Addr} {ls : List (Str × Tok)} {n : Nat} {news : List (Addr × Obj)}
    (B : Below A₀ base outer h₀) (Fh : Fr h₀ L s.heap m) (X : (hd.heap_1 w.params).In h₀) (N : News h₀ L s.heap ((I, mapObj T (.ref 68)) :: (T, tupObj1 it) :: (it, itObj l 0) :: (l, seqL (strValues ls).toArray n) :: news))
    (Tp : Top p loose mean mg mb h₀) (hk : cs.kind = .function) (hd : dp + 3 < recursionLimit) (hu : un + 43 < cLine) (h1 : it < T) (h2 : T < I) (h3 : l < it) (h4 : ∀ p ∈ news, p.1 < it) (hsz : ls.length ≤ 1000) (hb : ∀ q ∈ ls, q.1.length ≤ 1000)
    (h : ∀ S h' tk' (ls' : List (Str × Tok)) c, ls'.map (·.1) = ls.map (fun q => escF w.params q.1) → ls'.length = ls.length → (∀ q ∈ ls', q.1.length ≤ 2000) → Fr h₀ L h' m → News h₀ L h' ((S, seqL (strValues ls').toArray c) :: (l, seqL (strValues ls).toArray n) :: news) → (∀ p ∈ (l, seqL (strValues ls).toArray n) :: news, p.1 < S) → Q (.ref S) { s with heap := h', toks := tk' }) :
    wpAny (model prog w) (ktrTop dp un gd cn cs L a ccd cl outer) (call (.type "list") [.ref I]) Q E s := by
  refine list_map_N rfl (by simpa [strValues] using hsz) (Pre := fun v => ∃ x t, v = .str x t ∧ x.length ≤ 1000) (fun j x hj => ?_) Fh N h1 h2 h3 h4 (fun E' => escape_maps B X Tp hk hd hu E') fun S h' tk' acc c e1 e2 F' N' hIS => ?_
  · have hj' : (strValues ls)[j]? = some x := by simpa using hj
    unfold strValues at hj'
    rw [List.getElem?_map] at hj'
    obtain ⟨q, hq, rfl⟩ := Option.map_eq_some_iff.mp hj'
    exact ⟨q.1, q.2, rfl, hb q (List.mem_of_getElem? hq)⟩
  · have get : ∀ j (hj : j < acc.size), ∃ (hl : j < ls.length) (t' : Tok), acc[j] = .str (escF w.params ls[j].1) t' := fun j hj => by
      have hl : j < ls.length := by
        rw [e1] at hj
        simpa [strValues] using hj
      have h1 : (strValues ls).toArray[j]? = some (.str ls[j].1 ls[j].2) := by simp [strValues, hl]
      obtain ⟨x, t, t', q1, q2⟩ := e2.2 j _ _ h1 (Array.getElem?_eq_getElem hj)
      cases q1
      exact ⟨hl, t', q2⟩
    have hlen : acc.size = ls.length := by rw [e1]; simp [strValues]
    let g : Value → Str × Tok := fun v => match v with | .str y t => (y, t) | _ => default
    have hs : strValues (acc.toList.map g) = acc.toList := by
      unfold strValues
      rw [List.map_map]
      refine List.ext_getElem (by simp) fun j h1 h2 => ?_
      obtain ⟨hl, t', q⟩ := get j (by simpa using h2)
      simp [g, q]
    have hm : (acc.toList.map g).map (·.1) = ls.map (fun q => escF w.params q.1) := by
      refine List.ext_getElem (by simp [hlen]) fun j h1 h2 => ?_
      obtain ⟨hl, t', q⟩ := get j (by simpa using h1)
      simp [g, q]
    refine h S h' tk' (acc.toList.map g) c hm (by simp [hlen]) (fun q hq => ?_) F' ?_ fun p hp => ?_
    · have h1 : q.1 ∈ (acc.toList.map g).map (·.1) := List.mem_map_of_mem hq
      rw [hm] at h1
      obtain ⟨q', hq', e⟩ := List.mem_map.mp h1
      rw [← e]
      have := escF_length w.params q'.1
      have := hb q' hq'
      omega
    · rw [hs]
      exact N'
    · rcases List.mem_cons.mp hp with rfl | hp
      · exact Nat.lt_trans h3 (Nat.lt_trans h1 (Nat.lt_trans h2 hIS))
      · exact Nat.lt_trans (h4 p hp) (Nat.lt_trans h1 (Nat.lt_trans h2 hIS))
theorem len_strs {prog : Program} {w : World} {A : Around} {E : Value → Shared → Prop} {s : Shared} {h₀ : Heap} {L l : Addr} {news : List (Addr × Obj)} {ls : List (Str × Tok)} {c : Nat} {Q : Value → Shared → Prop} (N : News h₀ L s.heap news) (hm : (l, seqL (strValues ls).toArray c) ∈ news) (hb : ls.length ≤ 2000)
    (h : Q (.int (ls.length : Int) (s.toks + 1)) { s with toks := s.toks + 1 + 1 }) : wpAny (model prog w) A (call (.builtin "len") [.ref l]) Q E s :=
  kst_len (us := strValues ls) (k := ls.length) N hm (by simp [strValues]) (by omega) h
end Lw
end
example : True := by k_with_none; w_top off; trivial
section
open PySem PySem.W PyProof.Rows
namespace Lw
example : True := by
  k_with_none
  k_with "omega" => ((fail_if_success (fail_if_success (omega (config := {})))); first | lia | omega (config := {}))
  trivial
section
variable {prog : Program} {w : World} {A : Around} {E : Value → Shared → Prop} {s : Shared} {h₀ : Heap} {L : Addr} {m : Str → Option Value} {news rest : List (Addr × Obj)}
noncomputable def PlaceOf (k : Int) (n j : Nat) : Prop := (0 ≤ k ∧ k < n ∧ j = k.toNat) ∨ (k < 0 ∧ -(n : Int) ≤ k ∧ j = (k + n).toNat)
theorem PlaceOf.lt {k : Int} {n j : Nat} (h : PlaceOf k n j) : j < n := by rcases h with h | h <;> omega
theorem PlaceOf.fits {k : Int} {n j : Nat} (h : PlaceOf k n j) (hn : n ≤ 5000) : Builtin.List.listFitsIndex k = true := by
  rcases h with ⟨h1, h2, _⟩ | ⟨h1, h2, _⟩
  · exact fitsIndex_of h1 (by omega)
  · exact fitsIndex_neg h1 (by omega)
theorem setItem_seq {l : Addr} {items : Array Value} {n j : Nat} {k : Int} {t : Tok} {v : Value} {Q : Unit → Shared → Prop} (ho : s.heap.get? l = some (seqL items n)) (hn : items.size ≤ 5000) (hj : PlaceOf k items.size j)
    (hQ : ∀ h', h'.get? l = some (seqL (items.setIfInBounds j v) n) → Heap.SameBut l s.heap h' → Q () { s with heap := h' }) :
    wpAny (model prog w) A (setItem (.ref l) (.int k t) v) Q E s := by
  have hl : s.heap.IsList l items := ⟨_, ho, rfl, n, rfl⟩
  unfold setItem
  try with_reducible refine wpAny_holding ?_
  first | refine wpAny_bind (wpAny_pure ?_) | skip
  refine wpAny_bind (wpAny_sequenceKey hl.typeIs (by decide) ?_)
  refine wpAny_bind (wpAny_callSpecial?_slot (name := Str.ofString "__setitem__") hl.typeIs slot_list_setitem
    (wpAny_call_entry slot_list_setitem hl.typeIs entry_list_setitem ?_ (args_list_setitem _ _ _)))
  show wpAny _ _ (Builtin.List.listSubscript? (.int k t) >>= _) _ _ s
  refine wpAny_bind (wpAny_listSubscript_int (hj.fits hn) ?_)
  have hlt : j < items.size := hj.lt
  have hx : items[j]? = some items[j] := Array.getElem?_eq_getElem hlt
  have hsb : Heap.SameBut l s.heap (s.heap.update l (Obj.mapSeq (·.setIfInBounds j v))) := Heap.SameBut.update ..
  have hfin : (s.heap.update l (Obj.mapSeq (·.setIfInBounds j v))).get? l = some (seqL (items.setIfInBounds j v) n) := by
    rw [Heap.get?_update_self _ ho rfl]
    simp [Obj.mapSeq]
  rcases hj with ⟨h0, h1, rfl⟩ | ⟨h0, h1, rfl⟩
  · obtain ⟨i, rfl⟩ := Int.eq_ofNat_of_zero_le h0
    show wpAny _ _ ((seqItemAt l i >>= fun r => pure (r.map (i, ·))) >>= _) _ _ s
    refine wpAny_bind (wpAny_bind (wpAny_seqItemAt ho rfl (wpAny_pure ?_)))
    have hx' : items[i]? = some items[(i : Int).toNat] := hx
    rw [hx']
    show wpAny _ _ (setSeqItemAt l i v >>= _) _ _ s
    refine wpAny_bind (wpAny_setSeqItemAt ho rfl ?_)
    first
      | exact wpAny_bind (wpAny_pure (wpAny_pure ⟨.none, rfl, wpAny_pure (hQ _ hfin hsb)⟩))
      | exact wpAny_pure ⟨.none, rfl, wpAny_pure (hQ _ hfin hsb)⟩
  · have hidx := seqIndex_neg h0 h1
    generalize (k + items.size).toNat = j' at *
    obtain ⟨i, rfl⟩ : ∃ i : Nat, k = Int.negSucc i := by
      cases k with
      | ofNat n => exact absurd h0 (Int.not_lt.mpr (Int.ofNat_nonneg n))
      | negSucc n => exact ⟨n, rfl⟩
    show wpAny _ _ ((Builtin.List.listItems (.ref l) >>= fun xs => pure ((seqIndex? (Int.negSucc i) xs.size).bind fun i => xs[i]?.map (i, ·))) >>= _) _ _ s
    refine wpAny_bind (wpAny_bind ?_)
    show wpAny _ _ (seqItems? (.ref l) >>= _) _ _ s
    refine wpAny_bind (wpAny_seqItems ho rfl (wpAny_pure (wpAny_pure ?_)))
    rw [hidx]
    simp only [Option.bind_some, hx, Option.map_some]
    show wpAny _ _ (setSeqItemAt l j' v >>= _) _ _ s
    refine wpAny_bind (wpAny_setSeqItemAt ho rfl ?_)
    first
      | exact wpAny_bind (wpAny_pure (wpAny_pure ⟨.none, rfl, wpAny_pure (hQ _ hfin hsb)⟩))
      | exact wpAny_pure ⟨.none, rfl, wpAny_pure (hQ _ hfin hsb)⟩
theorem getItem_seq {l : Addr} {items : Array Value} {n j : Nat} {k : Int} {t : Tok} {x : Value} {Q : Value → Shared → Prop} (ho : s.heap.get? l = some (seqL items n)) (hn : items.size ≤ 5000) (hj : PlaceOf k items.size j) (hx : items[j]? = some x) (h : Q x s) :
    wpAny (model prog w) A (getItem (.ref l) (.int k t)) Q E s := by
  have hl : s.heap.IsList l items := ⟨_, ho, rfl, n, rfl⟩
  rcases hj with ⟨h0, h1, rfl⟩ | ⟨h0, h1, rfl⟩
  · exact wpAny_getItem_list hl h0 (by omega) hx h
  · exact wpAny_getItem_list_neg hl h0 h1 (by omega) hx h
theorem item_strs {l : Addr} {ls : List (Str × Tok)} {c j : Nat} {k : Int} {t : Tok} {value slice : Expr} {Q : Value → Shared → Prop} (N : News h₀ L s.heap news) (hm : (l, seqL (strValues ls).toArray c) ∈ news) (hn : ls.length ≤ 5000) (hj : PlaceOf k ls.length j) {b : Nat} (hb : ∀ q ∈ ls, q.1.length ≤ b)
    (h : ∀ q, ls[j]? = some q → q.1.length ≤ b → Q (.str q.1 q.2) s)
    (hs : subscripted slice false (.ref l) (.int k t) = operate [.ref l, .int k t] (getItem (.ref l) (.int k t)) := by with_unfolding_all rfl) :
    wpAny (model prog w) A (subscriptTail value slice (.ref l) (.int k t)) Q E s := by
  have ho := (N _ hm).1
  have hl : s.heap.IsList l (strValues ls).toArray := ⟨_, ho, rfl, c, rfl⟩
  have hlt := hj.lt
  have hq : ls[j]? = some ls[j] := List.getElem?_eq_getElem hlt
  have hsz : (strValues ls).toArray.size = ls.length := by simp [strValues]
  refine tail_any hl.typeIs slot_list_getitem.lookup (getItem_seq ho (by rw [hsz]; exact hn) (by rw [hsz]; exact hj) (x := .str ls[j].1 ls[j].2) (by simp [strValues, hq]) (h _ hq (hb _ (List.getElem_mem hlt)))) hs
theorem setItem_strs {l : Addr} {ls : List (Str × Tok)} {c j : Nat} {k : Int} {t u : Tok} {y : Str} {tail : List (Addr × Obj)} {Q : Unit → Shared → Prop} (Fh : Fr h₀ L s.heap m) (N : News h₀ L s.heap ((l, seqL (strValues ls).toArray c) :: tail))
    (hd : ∀ p ∈ tail, p.1 ≠ l) (hn : ls.length ≤ 5000) (hj : PlaceOf k ls.length j)
    (h : ∀ h', Fr h₀ L h' m → News h₀ L h' ((l, seqL (strValues (ls.set j (y, u))).toArray c) :: tail) → Q () { s with heap := h' }) :
    wpAny (model prog w) A (setItem (.ref l) (.int k t) (.str y u)) Q E s := by
  have ho := (N _ (.head _)).1
  have hsz : (strValues ls).toArray.size = ls.length := by simp [strValues]
  refine setItem_seq ho (by rw [hsz]; exact hn) (by rw [hsz]; exact hj) fun h' h1 h2 => ?_
  have e : ((strValues ls).toArray.setIfInBounds j (.str y u)) = (strValues (ls.set j (y, u))).toArray := by
    simp [strValues, List.map_set]
  rw [e] at h1
  exact h h' (Fr.upd1 Fh N h2) (News.upd1 N h2 h1 hd)
noncomputable def PEnd (h₀ : Heap) (L S : Addr) (c : Nat) (tail : List (Addr × Obj)) (x : Str) (m₀ : Str → Option Value) (P : List (Str × Tok) → Prop) (s : Shared) (f : Flow) (s₂ : Shared) : Prop :=
  (f = .next ∨ f = .cont) ∧ ∃ ls h' tk m', s₂ = { s with heap := h', toks := tk } ∧ Fr h₀ L h' m' ∧ (∀ z, z ≠ x → m' z = m₀ z) ∧ News h₀ L h' ((S, seqL (strValues ls).toArray c) :: tail) ∧ P ls
theorem parts_range {env : Env} {x : Str} {body : List Stmt} {Q : Flow → Shared → Prop} {r : Addr} {a₀ b₀ : Int} {t₀ u₀ v₀ : Tok} {n : Nat} {m₀ : Str → Option Value} {S : Addr} {c : Nat} {ls : List (Str × Tok)} (P₀ : List (Str × Tok) → List Int → List (Str × Tok) → Prop)
    (hh : A.handled = none) (hr : IsRange s.heap r a₀ b₀ 1 t₀ u₀ v₀) (hsmall : Builtin.Range.small a₀ b₀ 1 = true) (hn : Builtin.Range.rangeSize a₀ b₀ 1 = (n : Int)) (Fh : Fr h₀ env.locals s.heap m₀)
    (N : News h₀ env.locals s.heap ((S, seqL (strValues ls).toArray c) :: rest)) (hp : P₀ ls [] ls)
    (turn : ∀ ls₁ pre k t h tk own, k = a₀ + (pre.length : Int) → pre.length < n → OwnOff own (S :: rest.map (·.1)) → P₀ ls pre ls₁ → Fr h₀ env.locals h (fun y => if y = x then some (.int k t) else m₀ y) →
      News h₀ env.locals h ((S, seqL (strValues ls₁).toArray c) :: (rest ++ own)) → wpAny (model prog w) A (execs body env) (PEnd h₀ env.locals S c (rest ++ own) x m₀ (P₀ ls (pre ++ [k])) s) E { s with heap := h, toks := tk })
    (done : ∀ ls₁ (u : Str → Option Value) h tk, P₀ ls (rangeKs a₀ n) ls₁ → Fr h₀ env.locals h (fun y => if y = x then u y else m₀ y) → News h₀ env.locals h ((S, seqL (strValues ls₁).toArray c) :: rest) → Q .next { s with heap := h, toks := tk }) :
    wpAny (model prog w) A (pyIter (.ref r)) (fun it s₂ => LoopAtV prog w A h₀ env x body Q E it s₂) E s := by
  refine kst_range (σ := List (Str × Tok)) (fun l => (S, seqL (strValues l).toArray c) :: rest) (fun _ => []) (fun _ => True) [] (P₀ ls) ls hh hr hsmall hn Fh N trivial (fun p hp => nomatch hp) hp (fun ls₁ pre k t u h tk own e lt off _ hP F₁ N₁ => ?_) fun ls₁ u h tk _ hP F₁ N₁ => done ls₁ u h tk hP F₁ N₁
  refine wpAny_mono (turn ls₁ pre k t h tk own e lt off hP F₁ N₁) (fun f s₂ p => ?_) fun _ _ q => q
  obtain ⟨hf, ls₂, h', tk', m', rfl, F₂, hm, N₂, hP₂⟩ := p
  have fin : InvEndN h₀ env.locals (KstS (fun l => (S, seqL (strValues l).toArray c) :: rest) (fun _ => []) (fun _ => True) x [] m₀ (P₀ ls) (pre ++ [k])) own (((S, seqL (strValues ls).toArray c) :: rest).map (·.1)) { s with heap := h, toks := tk } { s with heap := h', toks := tk' } :=
    InvEndN.intro (nx := (S, seqL (strValues ls₂).toArray c) :: rest) F₂ N₂ ⟨ls₂, rfl, trivial, (fun p hp => nomatch hp), fun z h1 _ _ => hm z h1, hP₂⟩ rfl (fun p hp => by
      rcases List.mem_cons.mp hp with h | h
      · exact h ▸ .head _
      · exact .tail _ (List.mem_append.mpr (.inl h))) fun p hp => .tail _ (List.mem_append.mpr (.inr hp))
  rcases hf with rfl | rfl <;> exact fin
theorem ne_app {a b : List (Addr × Obj)} {S : Addr} {adr : List Addr} (h1 : ∀ p ∈ a, p.1 < S) (h2 : OwnOff b (S :: adr)) : ∀ p ∈ a ++ b, p.1 ≠ S := fun p hp => by
  rcases List.mem_append.mp hp with h | h
  · exact Nat.ne_of_lt (h1 p h)
  · exact h2 p h S (.head _)
theorem ne_lt {a : List (Addr × Obj)} {S : Addr} (h1 : ∀ p ∈ a, p.1 < S) : ∀ p ∈ a, p.1 ≠ S := fun p hp => Nat.ne_of_lt (h1 p hp)
end
end Lw
end
example : True := by k_with_none; w_top off; trivial
section
open PySem PySem.W PyProof.Rows
namespace Lw
example : True := by
  k_with_none
  k_with "callWith ref" => ((k_here; k_dflt (refine' callWith_K ?kAw90 ?kBw90 ?_; (case kAw90 => k_asm); (case kBw90 => k_is); k_whole)))
  k_with "eval Name" => ((k_here; (fail_if_success (with_reducible show wpAny _ _ (eval (Expr.Name _ _) (compEnvC _ _ _ _)) _ _ _)); k_dflt (first | (refine' nameX_L ?Fw91 ?vw91 ?_ ?aw91 ?bw91; (case bw91 => rfl); (case Fw91 => k_asm); (case aw91 => rfl); (case vw91 => rfl); k_whole) | (refine' nameX_C ?Nw92 ?cw92 ?mw92 ?dw92 ?_ ?aw92 ?bw92; (case bw92 => rfl); (case aw92 => rfl); (case Nw92 => k_asm); (case cw92 => rfl); (case mw92 => k_mem); (case dw92 => k_asm); k_whole) | (refine' nameX_K ?Fw93 ?Xw93 ?Tw93 ?ew93 ?_ ?aw93 ?bw93; (case bw93 => rfl); (case Fw93 => k_asm); (case Xw93 => k_asm); (case Tw93 => k_asm); (case aw93 => rfl); (case ew93 => k_is); k_whole) | (refine' nameX_B ?Fw94 ?Xw94 ?Tw94 ?ew94 ?vw94 ?nw94 ?_ ?aw94 ?bw94; (case bw94 => rfl); (case Fw94 => k_asm); (case Xw94 => k_asm); (case Tw94 => k_asm); (case aw94 => rfl); (case ew94 => k_is); (case vw94 => boot_fast); (case nw94 => decide); k_whole))))
  k_with "execs cons" => ((k_here; refine execs_G ?_; intro G9w hG9w))
  k_with "Go" => (((try dsimp only); first | (refine go_next_S (by with_reducible assumption) ?_; intro tSw) | refine go_ret (by with_reducible assumption) ?_ | refine go_cont (by with_reducible assumption) ?_ | refine go_brk (by with_reducible assumption) ?_))
  k_with "k_ne" => ((with_reducible first | assumption | exact Ne.symm (by assumption) | exact Nat.ne_of_lt (by assumption) | exact Ne.symm (Nat.ne_of_lt (by assumption)) | fail "k_ne"))
  k_with "ktr_room" => (first | exact room_a (by with_reducible assumption) rfl | exact room_b (by with_reducible assumption) rfl | exact room_c (by with_reducible assumption) rfl | fail "room")
  k_with "ktr_units" => (first | exact room_a (by with_reducible assumption) rfl | exact room_b (by with_reducible assumption) rfl | exact room_c (by with_reducible assumption) rfl | fail "room")
  k_with "k_room" => (ktr_room)
  k_with "k_all" => (first | with_reducible assumption | exact all_gt (by assumption) (by ((try dsimp only); omega)))
  k_with "k_mem" => (assumption)
  trivial
namespace Ce
noncomputable def S0 (prog : Program) (w : World) (news : List (Addr × Obj)) (la : Addr) (its : List Value) (ns : List Int) (p : Program) (loose : List Str) (mean : ExcName → Option Value) (mg : Str → Option Value) (mb : Str → Option Value) (dp : Nat) (un : Nat) (gd : Option (List Code)) (cn : Str) (cnm : List (Str × NameKind)) (cig : Bool) (cic : Bool) (cmo : List (Str × Const)) (a : Addr) (ccd : Value) (cl : List (Str × Addr)) (outer : List Env) (A₀ : Around) (base : Heap) (h₀ : Heap) (L : Addr) (m : Str → Option Value) (s : Shared) (Q : Value → Shared → Prop) (E : Value → Shared → Prop) : Prop :=
  IntsAre its ns → ns.length ≤ 1000 → 
  Below A₀ base outer h₀ → Fr h₀ L s.heap m → (hd.heap_1 w.params).In h₀ → News h₀ L s.heap news → Top p loose mean mg mb h₀ → base.IsList la its.toArray → Scope.kind ⟨.function, cnm, cig, cic, cmo⟩ = .function → dp + 3 < recursionLimit → un + 40 < cLine → (∀ c n vs qs h' tk', IntsAre vs qs → qs.length = 32 → Fr h₀ L h' m → News h₀ L h' ((c, seqL vs.toArray n) :: news) → Q (.ref c) { s with heap := h', toks := tk' }) → wpAny (model prog w) (ktrTop dp un gd cn ⟨.function, cnm, cig, cic, cmo⟩ L a ccd cl outer) (call (.ref 149) [.ref la]) Q E s
noncomputable def P0 (x : Program × World × (List (Addr × Obj)) × Addr × List Value × List Int × Program × List Str × (ExcName → Option Value) × (Str → Option Value) × (Str → Option Value) × Nat × Nat × Option (List Code) × Str × (List (Str × NameKind)) × Bool × Bool × (List (Str × Const)) × Addr × Value × (List (Str × Addr)) × List Env × Around × Heap × Heap × Addr × (Str → Option Value) × Shared × (Value → Shared → Prop) × (Value → Shared → Prop)) : Prop := S0 x.1 x.2.1 x.2.2.1 x.2.2.2.1 x.2.2.2.2.1 x.2.2.2.2.2.1 x.2.2.2.2.2.2.1 x.2.2.2.2.2.2.2.1 x.2.2.2.2.2.2.2.2.1 x.2.2.2.2.2.2.2.2.2.1 x.2.2.2.2.2.2.2.2.2.2.1 x.2.2.2.2.2.2.2.2.2.2.2.1 x.2.2.2.2.2.2.2.2.2.2.2.2.1 x.2.2.2.2.2.2.2.2.2.2.2.2.2.1 x.2.2.2.2.2.2.2.2.2.2.2.2.2.2.1 x.2.2.2.2.2.2.2.2.2.2.2.2.2.2.2.1 x.2.2.2.2.2.2.2.2.2.2.2.2.2.2.2.2.1 x.2.2.2.2.2.2.2.2.2.2.2.2.2.2.2.2.2.1 x.2.2.2.2.2.2.2.2.2.2.2.2.2.2.2.2.2.2.1 x.2.2.2.2.2.2.2.2.2.2.2.2.2.2.2.2.2.2.2.1 x.2.2.2.2.2.2.2.2.2.2.2.2.2.2.2.2.2.2.2.2.1 x.2.2.2.2.2.2.2.2.2.2.2.2.2.2.2.2.2.2.2.2.2.1 x.2.2.2.2.2.2.2.2.2.2.2.2.2.2.2.2.2.2.2.2.2.2.1 x.2.2.2.2.2.2.2.2.2.2.2.2.2.2.2.2.2.2.2.2.2.2.2.1 x.2.2.2.2.2.2.2.2.2.2.2.2.2.2.2.2.2.2.2.2.2.2.2.2.1 x.2.2.2.2.2.2.2.2.2.2.2.2.2.2.2.2.2.2.2.2.2.2.2.2.2.1 x.2.2.2.2.2.2.2.2.2.2.2.2.2.2.2.2.2.2.2.2.2.2.2.2.2.2.1 x.2.2.2.2.2.2.2.2.2.2.2.2.2.2.2.2.2.2.2.2.2.2.2.2.2.2.2.1 x.2.2.2.2.2.2.2.2.2.2.2.2.2.2.2.2.2.2.2.2.2.2.2.2.2.2.2.2.1 x.2.2.2.2.2.2.2.2.2.2.2.2.2.2.2.2.2.2.2.2.2.2.2.2.2.2.2.2.2.1 x.2.2.2.2.2.2.2.2.2.2.2.2.2.2.2.2.2.2.2.2.2.2.2.2.2.2.2.2.2.2
noncomputable def k0 : Program × World × (List (Addr × Obj)) × Addr × List Value × List Int × Program × List Str × (ExcName → Option Value) × (Str → Option Value) × (Str → Option Value) × Nat × Nat × Option (List Code) × Str × (List (Str × NameKind)) × Bool × Bool × (List (Str × Const)) × Addr × Value × (List (Str × Addr)) × List Env × Around × Heap × Heap × Addr × (Str → Option Value) × Shared × (Value → Shared → Prop) × (Value → Shared → Prop) := henk (qv, aWorld 1, [], 0, [], [], qv, [], fun _ => none, fun _ => none, fun _ => none, 0, 0, none, default, [], false, false, [], 0, .none, [], [], hen_a, default, default, 0, fun _ => none, hen_s, fun _ _ => True, fun _ _ => True) P0
@[irreducible] noncomputable def prog : Program := k0.1
@[irreducible] noncomputable def w : World := k0.2.1
@[irreducible] noncomputable def news : List (Addr × Obj) := k0.2.2.1
@[irreducible] noncomputable def la : Addr := k0.2.2.2.1
@[irreducible] noncomputable def its : List Value := k0.2.2.2.2.1
@[irreducible] noncomputable def ns : List Int := k0.2.2.2.2.2.1
@[irreducible] noncomputable def p : Program := k0.2.2.2.2.2.2.1
@[irreducible] noncomputable def loose : List Str := k0.2.2.2.2.2.2.2.1
@[irreducible] noncomputable def mean : ExcName → Option Value := k0.2.2.2.2.2.2.2.2.1
@[irreducible] noncomputable def mg : Str → Option Value := k0.2.2.2.2.2.2.2.2.2.1
@[irreducible] noncomputable def mb : Str → Option Value := k0.2.2.2.2.2.2.2.2.2.2.1
@[irreducible] noncomputable def dp : Nat := k0.2.2.2.2.2.2.2.2.2.2.2.1
@[irreducible] noncomputable def un : Nat := k0.2.2.2.2.2.2.2.2.2.2.2.2.1
@[irreducible] noncomputable def gd : Option (List Code) := k0.2.2.2.2.2.2.2.2.2.2.2.2.2.1
@[irreducible] noncomputable def cn : Str := k0.2.2.2.2.2.2.2.2.2.2.2.2.2.2.1
@[irreducible] noncomputable def cnm : List (Str × NameKind) := k0.2.2.2.2.2.2.2.2.2.2.2.2.2.2.2.1
@[irreducible] noncomputable def cig : Bool := k0.2.2.2.2.2.2.2.2.2.2.2.2.2.2.2.2.1
@[irreducible] noncomputable def cic : Bool := k0.2.2.2.2.2.2.2.2.2.2.2.2.2.2.2.2.2.1
@[irreducible] noncomputable def cmo : List (Str × Const) := k0.2.2.2.2.2.2.2.2.2.2.2.2.2.2.2.2.2.2.1
@[irreducible] noncomputable def a : Addr := k0.2.2.2.2.2.2.2.2.2.2.2.2.2.2.2.2.2.2.2.1
@[irreducible] noncomputable def ccd : Value := k0.2.2.2.2.2.2.2.2.2.2.2.2.2.2.2.2.2.2.2.2.1
@[irreducible] noncomputable def cl : List (Str × Addr) := k0.2.2.2.2.2.2.2.2.2.2.2.2.2.2.2.2.2.2.2.2.2.1
@[irreducible] noncomputable def outer : List Env := k0.2.2.2.2.2.2.2.2.2.2.2.2.2.2.2.2.2.2.2.2.2.2.1
@[irreducible] noncomputable def A₀ : Around := k0.2.2.2.2.2.2.2.2.2.2.2.2.2.2.2.2.2.2.2.2.2.2.2.1
@[irreducible] noncomputable def base : Heap := k0.2.2.2.2.2.2.2.2.2.2.2.2.2.2.2.2.2.2.2.2.2.2.2.2.1
@[irreducible] noncomputable def h₀ : Heap := k0.2.2.2.2.2.2.2.2.2.2.2.2.2.2.2.2.2.2.2.2.2.2.2.2.2.1
@[irreducible] noncomputable def L : Addr := k0.2.2.2.2.2.2.2.2.2.2.2.2.2.2.2.2.2.2.2.2.2.2.2.2.2.2.1
@[irreducible] noncomputable def m : Str → Option Value := k0.2.2.2.2.2.2.2.2.2.2.2.2.2.2.2.2.2.2.2.2.2.2.2.2.2.2.2.1
@[irreducible] noncomputable def s : Shared := k0.2.2.2.2.2.2.2.2.2.2.2.2.2.2.2.2.2.2.2.2.2.2.2.2.2.2.2.2.1
@[irreducible] noncomputable def Q : Value → Shared → Prop := k0.2.2.2.2.2.2.2.2.2.2.2.2.2.2.2.2.2.2.2.2.2.2.2.2.2.2.2.2.2.1
@[irreducible] noncomputable def E : Value → Shared → Prop := k0.2.2.2.2.2.2.2.2.2.2.2.2.2.2.2.2.2.2.2.2.2.2.2.2.2.2.2.2.2.2
theorem main : S0 prog w news la its ns p loose mean mg mb dp un gd cn cnm cig cic cmo a ccd cl outer A₀ base h₀ L m s Q E := by
  unfold S0
  intro hv hn B F X N T hl hk hd hu hret
  refine wpAny_call ?_
  k_enter
  (k_with "pyIter ref" => k_state (fun pre cells => cells.length = 32) "cells")
  k_steps
  exact hret _ _ _ _ _ _ (by assumption) (by assumption) (by assumption) (KStt.news_of (by assumption) fun p hp => by simpa using hp)
end Ce
theorem cells_call (prog : Program) (w : World) (news : List (Addr × Obj)) (la : Addr) (its : List Value) (ns : List Int) (hv : IntsAre its ns) (hn : ns.length ≤ 1000) :
    ∀ (p : Program) (loose : List Str) (mean : ExcName → Option Value) (mg : Str → Option Value) (mb : Str → Option Value) (dp : Nat) (un : Nat) (gd : Option (List Code)) (cn : Str) (cs : Scope) (a : Addr) (ccd : Value) (cl : List (Str × Addr)) (outer : List Env) (A₀ : Around) (base : Heap) (h₀ : Heap) (L : Addr) (m : Str → Option Value) (s : Shared) (Q : Value → Shared → Prop) (E : Value → Shared → Prop), Below A₀ base outer h₀ → Fr h₀ L s.heap m → (hd.heap_1 w.params).In h₀ → News h₀ L s.heap news → Top p loose mean mg mb h₀ → base.IsList la its.toArray → cs.kind = .function → dp + 3 < recursionLimit → un + 40 < cLine → (∀ c n vs qs h' tk', IntsAre vs qs → qs.length = 32 → Fr h₀ L h' m → News h₀ L h' ((c, seqL vs.toArray n) :: news) → Q (.ref c) { s with heap := h', toks := tk' }) → wpAny (model prog w) (ktrTop dp un gd cn cs L a ccd cl outer) (call (.ref 149) [.ref la]) Q E s := by
  intro p loose mean mg mb dp un gd cn cs a ccd cl outer A₀ base h₀ L m s Q E B F X N T hl hk
  obtain ⟨ck, cnm, cig, cic, cmo⟩ := cs
  cases hk
  exact henk_all (P := Ce.P0) (by with_unfolding_all exact Ce.main) (prog, w, news, la, its, ns, p, loose, mean, mg, mb, dp, un, gd, cn, cnm, cig, cic, cmo, a, ccd, cl, outer, A₀, base, h₀, L, m, s, Q, E) hv hn B F X N T hl rfl
end Lw
end
example : True := by k_with_none; w_top off; trivial
section
open PySem PySem.W PyProof.Rows
namespace Lw
example : True := by
  k_with_none
  k_with "omega" => ((fail_if_success (fail_if_success (omega (config := {})))); first | lia | omega (config := {}))
  trivial
open PySem.Calls
section
variable {prog : Program} {w : World} {A : Around} {E : Value → Shared → Prop} {s : Shared} {L : Addr} {env : Env}
inductive Back (L I : Addr) (oI : Obj) (J : Heap → (Str → Option Value) → List (Addr × Obj) → Prop) (s s₃ : Shared) : Prop
  | mk (h₀ m nx h' tk' : _) (zz1 : s₃ = { s with heap := h', toks := tk' }) (zz2 : Fr h₀ L h' m) (zz3 : News h₀ L h' ((I, oI) :: nx)) (zz4 : (∀ p ∈ nx, p.1 ≠ I)) (zz5 : J h₀ m nx) : Back L I oI J s s₃
theorem Back.intro {I : Addr} {oI : Obj} {J : Heap → (Str → Option Value) → List (Addr × Obj) → Prop} {s : Shared} {h₀ h' : Heap} {m : Str → Option Value} {all nx : List (Addr × Obj)} {tk' : Tok} (F : Fr h₀ L h' m) (N : News h₀ L h' all) (hs : ∀ p ∈ (I, oI) :: nx, p ∈ all) (ho : ∀ p ∈ nx, p.1 ≠ I) (j : J h₀ m nx) :
    Back L I oI J s { s with heap := h', toks := tk' } := ⟨h₀, m, nx, h', tk', rfl, F, fun p hp => N p (hs p hp), ho, j⟩
noncomputable def TurnPost (L I : Addr) (oI : Obj) (J : Heap → (Str → Option Value) → List (Addr × Obj) → Prop) (Q : Flow → Shared → Prop) (s : Shared) (f : Flow) (s₃ : Shared) : Prop :=
  match f with
  | .next => Back L I oI J s s₃
  | .cont => Back L I oI J s s₃
  | .brk => Q .next s₃
  | .ret v => Q (.ret v) s₃
inductive ForAt (I L : Addr) (n : Nat) (St : Nat → Heap → Prop) (J : Nat → Heap → (Str → Option Value) → List (Addr × Obj) → Prop) (s : Shared) (k : Nat) (s' : Shared) : Prop
  | mk (i : Nat) (h : Heap) (tk : Tok) (h₀ : Heap) (m : Str → Option Value) (nx : List (Addr × Obj)) (e1 : s' = { s with heap := h, toks := tk }) (e2 : i ≤ n) (e3 : k = n + 1 - i) (e4 : St i h) (e5 : Fr h₀ L h m) (e6 : News h₀ L h nx) (e7 : ∀ p ∈ nx, p.1 ≠ I) (e8 : h₀.get? I = none) (e9 : J i h₀ m nx) : ForAt I L n St J s k s'
theorem for_led {target : PySem.Expr} {body : List Stmt} {I : Addr} {fp : List Addr} {n : Nat} {P : Nat → Value → Prop} {St : Nat → Heap → Prop} {Q : Flow → Shared → Prop} (J : Nat → Heap → (Str → Option Value) → List (Addr × Obj) → Prop)
    (W : Walks prog w A I fp [I] n P St) (IO : Obj → Prop) (hIo : ∀ i h, St i h → ∃ o, h.get? I = some o ∧ IO o)
    (hSt : ∀ i j h h' o h₀ m nx, St i h → h.get? I = some o → h'.get? I = some o → Fr h₀ L h' m → News h₀ L h' nx → J j h₀ m nx → St i h')
    (ht : ∀ v, letOwnedTupleGo target (.ref I) v = pure ())
    (turn : ∀ i v oI h₀ m nx h tk (E' : Value → Shared → Prop), i < n → P i v → IO oI → Fr h₀ L h m → News h₀ L h ((I, oI) :: nx) → (∀ p ∈ nx, p.1 ≠ I) → J i h₀ m nx →
      wpAny (model prog w) A (assign target env v) (fun _ s₂ => wpAny (model prog w) A (execs body env) (TurnPost L I oI (J (i + 1)) Q s) E' s₂) E' { s with heap := h, toks := tk })
    (done : ∀ h₀ m nx h tk, Fr h₀ L h m → News h₀ L h nx → J n h₀ m nx → Q .next { s with heap := h, toks := tk })
    {h₁ : Heap} {m₁ : Str → Option Value} {nx₁ : List (Addr × Obj)} (F : Fr h₁ L s.heap m₁) (N : News h₁ L s.heap nx₁) (hIL : I ≠ L) (hI0 : h₁.get? I = none) (off : ∀ p ∈ nx₁, p.1 ≠ I) (hst : St 0 s.heap) (j : J 0 h₁ m₁ nx₁) :
    codeAny (model prog w) A (.forLoop target (.ref I) body [] env) (fun r s' => match r with | .ok f => Q f s' | .error e => cameBackBy (model prog w) A env E e s') s := by
  refine codeAny_forLoop (ForAt I L n St J s) ?_ (n + 1) ⟨0, s.heap, s.toks, h₁, m₁, nx₁, rfl, Nat.zero_le _, rfl, hst, F, N, off, hI0, j⟩ ht
  rintro k s' ⟨i, h, tk, h₀, m, nx, rfl, hi, rfl, st, F', N', off', hI', j'⟩
  by_cases hlt : i < n
  · refine W.item i _ _ _ hlt st fun v h₂ tk₂ hPv hst₂ hk₂ => ?_
    obtain ⟨oI, heI, hio⟩ := hIo _ _ hst₂
    have F₂ : Fr h₀ L h₂ m := LCg.fr_but F' hk₂ (Ne.symm hIL) hI'
    have N₂ : News h₀ L h₂ nx := LCg.news_but N' hk₂ off'
    refine wpAny_mono (turn i v oI h₀ m nx h₂ tk₂ _ hlt hPv hio F₂ (fun p hp => ?_) off' j') (fun _ s₂ q => wpAny_mono q (fun f s₃ q => ?_) fun _ _ y => y) fun _ _ y => y
    · rcases List.mem_cons.mp hp with rfl | hp
      · exact ⟨heI, hIL, hI'⟩
      · exact N₂ p hp
    · have fin : Back L I oI (J (i + 1)) s s₃ → ∃ m_1, m_1 < n + 1 - i ∧ ForAt I L n St J s m_1 s₃ := by
        rintro ⟨h₀', m', nx', h', tk', rfl, F₃, N₃, off₃, j₃⟩
        have z := N₃ _ (.head _)
        have N₃' : News h₀' L h' nx' := fun p hp => N₃ p (.tail _ hp)
        exact ⟨n + 1 - (i + 1), by omega, i + 1, h', tk', h₀', m', nx', rfl, hlt, rfl, hSt (i + 1) _ h₂ h' oI h₀' m' nx' hst₂ heI z.1 F₃ N₃' j₃, F₃, N₃', off₃, z.2.2, j₃⟩
      cases f with
      | next => exact fin q
      | cont => exact fin q
      | brk => exact q
      | ret v => exact q
  · obtain rfl : i = n := Nat.le_antisymm hi (Nat.not_lt.mp hlt)
    refine W.done _ _ _ st fun h₂ tk₂ hk₂ => ?_
    have F₂ : Fr h₀ L h₂ m := LCg.fr_but F' hk₂ (Ne.symm hIL) hI'
    have N₂ : News h₀ L h₂ nx := LCg.news_but N' hk₂ off'
    exact wpAny_pure (done h₀ m nx h₂ tk₂ F₂ N₂ j')
noncomputable def WhlJ (J : Nat → Shared → Prop) (n : Nat) (Q : Flow → Shared → Prop) (f : Flow) (s₃ : Shared) : Prop :=
  match f with
  | .next => ∃ k, k < n ∧ J k s₃
  | .cont => ∃ k, k < n ∧ J k s₃
  | .brk => Q .next s₃
  | .ret v => Q (.ret v) s₃
theorem while_ind {test : PySem.Expr} {body orelse : List Stmt} {Q : Flow → Shared → Prop} (J : Nat → Shared → Prop) (hE : PassesOwn (model prog w) A env E)
    (turn : ∀ n s, J n s → wpAny (model prog w) A (isTrue test env (eval test env)) (fun b s₂ => if b = true then wpAny (model prog w) A (execs body env) (WhlJ J n Q) E s₂ else wpAny (model prog w) A (execs orelse env) Q E s₂) E s) : ∀ n s, J n s → WhlRest prog w A E env test body orelse Q 0 s := by
  intro n
  induction n using Nat.strongRecOn with
  | _ n ih =>
    intro s j
    show WhlRest prog w A E env test body orelse Q (0 + 1) s
    refine whl_turn hE (wpAny_mono (turn n s j) (fun b s₂ q => ?_) fun _ _ y => y)
    cases b with
    | false => exact WhlIf.no rfl (by simpa using q)
    | true =>
      refine WhlIf.yes rfl ?_
      simp only [if_true] at q
      refine wpAny_mono q (fun f s₃ q => ?_) fun _ _ y => y
      cases f with
      | next => obtain ⟨k, hk, jk⟩ := q; exact ih k hk s₃ jk
      | cont => obtain ⟨k, hk, jk⟩ := q; exact ih k hk s₃ jk
      | brk => exact q
      | ret v => exact q
end
end Lw
namespace Lw
section
variable {prog : Program} {w : World} {A : Around} {E : Value → Shared → Prop} {s : Shared} {L : Addr} {env : Env}
theorem For_S {target iter : PySem.Expr} {body orelse : List Stmt} {pos : Pos} {Q : Flow → Shared → Prop}
    (h : Stop (wpAny (model prog w) A (eval iter env) (fun x s₁ => wpAny (model prog w) A (pyIter x) (fun it s₂ =>
      codeAny (model prog w) A (.forLoop target it body orelse env) (fun r s' => match r with | .ok f => Q f s' | .error e => cameBackBy (model prog w) A env E e s') s₂) E s₁) E s))
    (hs : ∀ x, foldedSetIterable iter env x = pure x := by intro _; rfl) :
    wpAny (model prog w) A (exec (.For target iter body orelse pos) env) Q E s := wpAny_For h hs
end
end Lw
namespace Lw
section
variable {prog : Program} {w : World} {A : Around} {E : Value → Shared → Prop} {s : Shared}
noncomputable abbrev frBase {g h : Heap} {L : Addr} {m : Str → Option Value} (_ : Fr g L h m) : Heap := g
noncomputable abbrev frMap {g h : Heap} {L : Addr} {m : Str → Option Value} (_ : Fr g L h m) : Str → Option Value := m
noncomputable abbrev frL {g h : Heap} {L : Addr} {m : Str → Option Value} (_ : Fr g L h m) : Addr := L
theorem pyIter_str_led {x : Str} {t : Tok} {Q : Value → Shared → Prop}
    (hQ : ∀ (o : Obj) (St : Nat → Heap → Prop), (∀ A' : Around, A'.handled = none → Walks prog w A' s.heap.objs.size [s.heap.objs.size] [s.heap.objs.size] x.cps.size (SignAt x) St) → (∀ i h, St i h → ∃ o, h.get? s.heap.objs.size = some o) → St 0 (s.heap.push o) →
      Q (.ref s.heap.objs.size) { s with heap := s.heap.push o }) : wpAny (model prog w) A (pyIter (.str x t)) Q E s := by
  cases ha : x.cps.all (· < 128)
  · exact wpAny_pyIter_wide ha (hQ _ _ (fun A' hA => Walks.strWide hA _ x t) (fun i h st => by obtain ⟨o, e, _⟩ := st; exact ⟨o, e⟩) ⟨_, Heap.get?_push_size _ rfl, rfl, rfl⟩)
  · exact wpAny_pyIter_ascii ha (hQ _ _ (fun A' hA => Walks.strAscii hA _ x t) (fun i h st => by obtain ⟨o, e, _⟩ := st; exact ⟨o, e⟩) ⟨_, Heap.get?_push_size _ rfl, rfl, rfl⟩)
end
end Lw
namespace Lw
theorem ints_of : ∀ {ys : List Value} {ns : List Int}, ys.length = ns.length → (∀ (i : Nat) (v : Value), ys[i]? = some v → ∃ k t, ns[i]? = some k ∧ v = Value.int k t) → IntsAre ys ns
  | [], [], _, _ => .nil
  | [], _ :: _, h, _ => by simp at h
  | _ :: _, [], h, _ => by simp at h
  | y :: ys, n :: ns, h, k => by
    obtain ⟨k', t, e1, rfl⟩ := k 0 y rfl
    simp at e1
    subst e1
    exact .cons _ _ (ints_of (by simpa using h) fun i v hv => by simpa using k (i + 1) v (by simpa using hv))
section
variable {prog : Program} {w : World} {A : Around} {E : Value → Shared → Prop} {s : Shared} {h₀ : Heap} {L : Addr} {m : Str → Option Value} {news : List (Addr × Obj)}
theorem list_range_N {r : Addr} {a b : Int} {t u v : Tok} {Q : Value → Shared → Prop} (hh : A.handled = none) (F : Fr h₀ L s.heap m) (N : News h₀ L s.heap news) (hr : IsRange s.heap r a b 1 t u v) (ha : -1000000 ≤ a ∧ a ≤ 1000000) (hb : -1000000 ≤ b ∧ b ≤ 1000000)
    (h : ∀ D c h' tk ys, Fr h₀ L h' m → News h₀ L h' ((D, ({ cls := .type "list", data := .seq (List.toArray ys) c } : Obj)) :: news) → (∀ q ∈ news, q.1 < D) → IntsAre ys (rangeKs a (b - a).toNat) → Q (.ref D) { s with heap := h', toks := tk }) :
    wpAny (model prog w) A (call (.type "list") [.ref r]) Q E s := by
  refine call_list_range hh hr (small_one (by omega) (by omega) (by omega) (by omega)) (rangeSize_nat _ _) (by omega) fun h' tk acc' c' hk hD hacc => ?_
  refine h _ c' h' tk acc'.toList (F.keeps hk) (news_pushed F N hk (by simpa using hD) rfl) (fun q hq => Heap.lt_size (N q hq).1) (ints_of (by rw [rangeKs_length]; simpa using hacc.1) fun i v hv => ?_)
  obtain ⟨t, rfl⟩ := hacc.2 i v (by simpa using hv)
  refine ⟨a + (i : Int), t, ?_, by simp⟩
  have hi : i < acc'.size := by
    have := (List.getElem?_eq_some_iff.mp hv).1
    simpa using this
  rw [hacc.1] at hi
  simp [rangeKs, hi]
end
end Lw
end
example : True := by k_with_none; w_top off; trivial
section
open PySem PySem.W PyProof.Rows
namespace Lw
section
variable {prog : Program} {w : World} {A : Around} {E : Value → Shared → Prop} {s : Shared} {h₀ : Heap} {L : Addr} {m : Str → Option Value} {rest : List (Addr × Obj)}
noncomputable def TEnd (h₀ : Heap) (L S : Addr) (tail : List (Addr × Obj)) (x : Str) (stored : List Str) (m₀ : Str → Option Value) (P : List (Str × Tok) → Prop) (Q : Flow → Shared → Prop) (s : Shared) (f : Flow) (s₂ : Shared) : Prop :=
  match f with
  | .ret v => Q (.ret v) s₂
  | .brk => Q .next s₂
  | _ => ∃ ls c h' tk m', s₂ = { s with heap := h', toks := tk } ∧ Fr h₀ L h' m' ∧ (∀ z, z ≠ x → stored.contains z = false → m' z = m₀ z) ∧ News h₀ L h' ((S, seqL (strValues ls).toArray c) :: tail) ∧ P ls
theorem texts_range {env : Env} {x : Str} {body : List Stmt} {Q : Flow → Shared → Prop} {r : Addr} {a₀ b₀ : Int} {t₀ u₀ v₀ : Tok} {n : Nat} {m₀ : Str → Option Value} {S : Addr} {c₀ : Nat} {ls₀ : List (Str × Tok)} (stored : List Str) (P₀ : List Int → List (Str × Tok) → Prop)
    (hh : A.handled = none) (hr : IsRange s.heap r a₀ b₀ 1 t₀ u₀ v₀) (hsmall : Builtin.Range.small a₀ b₀ 1 = true) (hn : Builtin.Range.rangeSize a₀ b₀ 1 = (n : Int)) (Fh : Fr h₀ env.locals s.heap m₀)
    (N : News h₀ env.locals s.heap ((S, seqL (strValues ls₀).toArray c₀) :: rest)) (hp : P₀ [] ls₀)
    (turn : ∀ ls c pre k t (u : Str → Option Value) h tk own, k = a₀ + (pre.length : Int) → pre.length < n → OwnOff own (S :: rest.map (·.1)) → P₀ pre ls → Fr h₀ env.locals h (fun y => if y = x then some (.int k t) else if stored.contains y then u y else m₀ y) →
      News h₀ env.locals h ((S, seqL (strValues ls).toArray c) :: (rest ++ own)) → wpAny (model prog w) A (execs body env) (TEnd h₀ env.locals S (rest ++ own) x stored m₀ (P₀ (pre ++ [k])) Q s) E { s with heap := h, toks := tk })
    (done : ∀ ls c (u : Str → Option Value) h tk, P₀ (rangeKs a₀ n) ls → Fr h₀ env.locals h (fun y => if y = x then u y else if stored.contains y then u y else m₀ y) → News h₀ env.locals h ((S, seqL (strValues ls).toArray c) :: rest) → Q .next { s with heap := h, toks := tk }) :
    wpAny (model prog w) A (pyIter (.ref r)) (fun it s₂ => LoopAtV prog w A h₀ env x body Q E it s₂) E s := by
  refine kst_range (σ := List (Str × Tok) × Nat) (fun l => (S, seqL (strValues l.1).toArray l.2) :: rest) (fun _ => []) (fun _ => True) stored (fun pre l => P₀ pre l.1) (ls₀, c₀) hh hr hsmall hn Fh N trivial (fun p hp => nomatch hp) hp (fun ls₁ pre k t u h tk own e lt off _ hP F₁ N₁ => ?_) fun ls₁ u h tk _ hP F₁ N₁ => done ls₁.1 ls₁.2 u h tk hP F₁ N₁
  refine wpAny_mono (turn ls₁.1 ls₁.2 pre k t u h tk own e lt off hP F₁ N₁) (fun f s₂ p => ?_) fun _ _ q => q
  have fin : (∃ ls c h' tk m', s₂ = { s with heap := h', toks := tk } ∧ Fr h₀ env.locals h' m' ∧ (∀ z, z ≠ x → stored.contains z = false → m' z = m₀ z) ∧ News h₀ env.locals h' ((S, seqL (strValues ls).toArray c) :: (rest ++ own)) ∧ P₀ (pre ++ [k]) ls) →
      InvEndN h₀ env.locals (KstS (σ := List (Str × Tok) × Nat) (fun l => (S, seqL (strValues l.1).toArray l.2) :: rest) (fun _ => []) (fun _ => True) x stored m₀ (fun pre l => P₀ pre l.1) (pre ++ [k])) own (((S, seqL (strValues ls₀).toArray c₀) :: rest).map (·.1)) { s with heap := h, toks := tk } s₂ := by
    rintro ⟨ls₂, c₂, h', tk', m', rfl, F₂, hm, N₂, hP₂⟩
    exact InvEndN.intro (nx := (S, seqL (strValues ls₂).toArray c₂) :: rest) F₂ N₂ ⟨(ls₂, c₂), rfl, trivial, (fun p hp => nomatch hp), fun z h1 _ h3 => hm z h1 h3, hP₂⟩ rfl (fun p hp => by
      rcases List.mem_cons.mp hp with h | h
      · exact h ▸ .head _
      · exact .tail _ (List.mem_append.mpr (.inl h))) fun p hp => .tail _ (List.mem_append.mpr (.inr hp))
  cases f with
  | next => exact fin p
  | cont => exact fin p
  | brk => exact p
  | ret v => exact p
noncomputable def TEnd2 (h₀ : Heap) (L S : Addr) (tail : List (Addr × Obj)) (x : Str) (stored : List Str) (m₀ : Str → Option Value) (P : List (Str × Tok) → Prop) (Bad : Prop) (s : Shared) (f : Flow) (s₂ : Shared) : Prop :=
  match f with
  | .ret v => v = .none ∧ Bad ∧ ∃ h' tk m', s₂ = { s with heap := h', toks := tk } ∧ Fr h₀ L h' m' ∧ News h₀ L h' tail
  | .brk => False
  | _ => ∃ ls c h' tk m', s₂ = { s with heap := h', toks := tk } ∧ Fr h₀ L h' m' ∧ (∀ z, z ≠ x → stored.contains z = false → m' z = m₀ z) ∧ News h₀ L h' ((S, seqL (strValues ls).toArray c) :: tail) ∧ P ls
theorem texts_range2 {env : Env} {x : Str} {body : List Stmt} {Q : Flow → Shared → Prop} {r : Addr} {a₀ b₀ : Int} {t₀ u₀ v₀ : Tok} {n : Nat} {m₀ : Str → Option Value} {S : Addr} {c₀ : Nat} {ls₀ : List (Str × Tok)} (stored : List Str) (Bad : Prop) (P₀ : List Int → List (Str × Tok) → Prop)
    (hh : A.handled = none) (hr : IsRange s.heap r a₀ b₀ 1 t₀ u₀ v₀) (hsmall : Builtin.Range.small a₀ b₀ 1 = true) (hn : Builtin.Range.rangeSize a₀ b₀ 1 = (n : Int)) (Fh : Fr h₀ env.locals s.heap m₀)
    (N : News h₀ env.locals s.heap ((S, seqL (strValues ls₀).toArray c₀) :: rest)) (hp : P₀ [] ls₀)
    (turn : ∀ ls c pre k t (u : Str → Option Value) h tk own, k = a₀ + (pre.length : Int) → pre.length < n → OwnOff own (S :: rest.map (·.1)) → P₀ pre ls → Fr h₀ env.locals h (fun y => if y = x then some (.int k t) else if stored.contains y then u y else m₀ y) →
      News h₀ env.locals h ((S, seqL (strValues ls).toArray c) :: (rest ++ own)) → ∀ G : Flow → Shared → Prop, (∀ h' tk m', Bad → Fr h₀ env.locals h' m' → News h₀ env.locals h' (rest ++ own) → G (.ret .none) { s with heap := h', toks := tk }) →
      (∀ ls c h' tk m', Fr h₀ env.locals h' m' → (∀ z, z ≠ x → stored.contains z = false → m' z = m₀ z) → News h₀ env.locals h' ((S, seqL (strValues ls).toArray c) :: (rest ++ own)) → P₀ (pre ++ [k]) ls → G .next { s with heap := h', toks := tk }) → wpAny (model prog w) A (execs body env) G E { s with heap := h, toks := tk })
    (bad : Bad → ∀ h' tk m', Fr h₀ env.locals h' m' → News h₀ env.locals h' rest → Q (.ret .none) { s with heap := h', toks := tk })
    (done : ∀ ls c (u : Str → Option Value) h tk, P₀ (rangeKs a₀ n) ls → Fr h₀ env.locals h (fun y => if y = x then u y else if stored.contains y then u y else m₀ y) → News h₀ env.locals h ((S, seqL (strValues ls).toArray c) :: rest) → Q .next { s with heap := h, toks := tk }) :
    wpAny (model prog w) A (pyIter (.ref r)) (fun it s₂ => LoopAtV prog w A h₀ env x body Q E it s₂) E s := by
  refine texts_range stored P₀ hh hr hsmall hn Fh N hp (fun ls c pre k t u h tk own e lt off hP F₁ N₁ => ?_) done
  refine wpAny_mono (turn ls c pre k t u h tk own e lt off hP F₁ N₁ (TEnd2 h₀ env.locals S (rest ++ own) x stored m₀ (P₀ (pre ++ [k])) Bad s) (fun h' tk m' hb F N => ⟨rfl, hb, h', tk, m', rfl, F, N⟩) fun ls c h' tk m' F hz N hP => ⟨ls, c, h', tk, m', rfl, F, hz, N, hP⟩) (fun f s₂ p => ?_) fun _ _ q => q
  cases f with
  | next => exact p
  | cont => exact p
  | brk => exact p.elim
  | ret v =>
    obtain ⟨rfl, hb, h', tk', m', rfl, F₂, N₂⟩ := p
    exact bad hb h' tk' m' F₂ fun p hp => N₂ p (List.mem_append.mpr (.inl hp))
theorem strValues_push {ls : List (Str × Tok)} {y : Str} {t : Tok} : (strValues ls).toArray.push (.str y t) = (strValues (ls ++ [(y, t)])).toArray := by simp [strValues]
end
end Lw
end
example : True := by k_with_none; w_top off; trivial
section
open PySem PySem.W PyProof.Rows
namespace Lw
open PySem.W.KStt (codes txt)
theorem slice_clip {x : Str} {i j : Int} (h0 : 0 ≤ i) (h1 : 0 ≤ j) : Txt.slice x (some i) (some j) = Txt.slice x (some (min i x.length)) (some (min j x.length)) := by
  have e : PySem.Builtin.Str.strSliceIndices (some i) (some j) 1 x.length = PySem.Builtin.Str.strSliceIndices (some (min i x.length)) (some (min j x.length)) 1 x.length := by
    unfold PySem.Builtin.Str.strSliceIndices
    simp only [show (1 : Int) > 0 by decide, if_true]
    rw [if_neg (by omega), if_neg (by omega), if_neg (by omega), if_neg (by omega)]
    congr 1 <;> exact congrArg (max 0) (Int.min_eq_left (Int.min_le_right _ _)).symm
  unfold Txt.slice
  rw [e]
theorem slice_eq {x : Str} {i j : Int} (h0 : 0 ≤ i) (h1 : i ≤ j) : Txt.slice x (some i) (some j) = ⟨((x.cps.toList.drop i.toNat).take (j - i).toNat).toArray⟩ := by
  have hl : (x.length : Int) = (x.cps.toList.length : Nat) := by simp [Str.length]
  rw [slice_clip h0 (by omega)]
  have := eq_of_beq (slice_closesL (x := x) (i := min i x.length) (j := min j x.length) (by omega) (by omega) (by omega))
  rw [this]
  congr 2
  generalize x.cps.toList = l at hl
  rw [hl]
  by_cases c : i ≤ (l.length : Int)
  · rw [show min i (l.length : Int) = i by omega]
    by_cases d : j ≤ (l.length : Int)
    · rw [show min j (l.length : Int) = j by omega]
    · rw [List.take_of_length_le (by simp; omega), List.take_of_length_le (by simp; omega)]
  · rw [List.drop_eq_nil_of_le (by omega), List.drop_eq_nil_of_le (by omega)]
    simp
theorem slice_from {x : Str} {i : Int} (h0 : 0 ≤ i) (h1 : i ≤ x.length) : Txt.slice x (some i) none = ⟨(x.cps.toList.drop i.toNat).toArray⟩ := by
  have hl : (x.length : Int) = (x.cps.toList.length : Nat) := by simp [Str.length]
  rw [slice_from_eq h0 h1 rfl, List.take_of_length_le (by rw [List.length_drop]; omega)]
theorem slice_to {x : Str} {j : Int} (h0 : 0 ≤ j) (h1 : j ≤ x.length) : Txt.slice x none (some j) = ⟨(x.cps.toList.take j.toNat).toArray⟩ := by
  have := eq_of_beq (slice_closes_toL (x := x) (j := j) h0 h1)
  rw [this]
  simp
theorem slice_sign {y : Str} {k : Int} {q : Nat} (h0 : 0 ≤ k) : (Txt.slice y (some k) (some (k + 1)) == (⟨#[q]⟩ : Str)) = decide ((y.cps[k.toNat]?).map Int.ofNat = some (q : Int)) := by
  rw [slice_eq h0 (by omega), show (k + 1 - k).toNat = 1 by omega, Bool.eq_iff_iff]
  simp only [beq_iff_eq, decide_eq_true_eq, Str.mk.injEq]
  have e : y.cps[k.toNat]? = y.cps.toList[k.toNat]? := by simp
  rw [e]
  generalize y.cps.toList = l
  rcases Nat.lt_or_ge k.toNat l.length with c | c
  · rw [List.drop_eq_getElem_cons c, List.getElem?_eq_getElem c]
    show ([l[k.toNat]].toArray = #[q]) ↔ _
    rw [Option.map_some, Option.some.injEq]
    have e9 : (#[l[k.toNat]] : Array Nat) = #[q] ↔ l[k.toNat] = q := by simp
    have e8 : (Int.ofNat l[k.toNat] = (q : Int)) ↔ l[k.toNat] = q := by
      show ((l[k.toNat] : Nat) : Int) = _ ↔ _
      omega
    rw [e8, ← e9]
  · rw [List.drop_eq_nil_of_le c, List.getElem?_eq_none c]
    simp
noncomputable def wholeF (x : Str) : Str := if (42 : Nat) ∈ x.cps.toList then x else Str.ofString "*" ++ x
theorem star_occ (x : Str) : (Builtin.Str.occurrences x (Str.ofString "*") 0 x.length 1).isEmpty = !decide ((42 : Nat) ∈ x.cps.toList) := by
  have e : Str.ofString "*" = ⟨#[42]⟩ := by decide +kernel
  rw [e, ← StrLaws.found_one x 42]
  simp
theorem whole_no {x : Str} (h : (Builtin.Str.occurrences x (Str.ofString "*") 0 x.length 1).isEmpty = true) : wholeF x = Str.ofString "*" ++ x := by
  rw [star_occ] at h
  unfold wholeF
  rw [if_neg (by simpa using h)]
theorem whole_yes {x : Str} (h : (Builtin.Str.occurrences x (Str.ofString "*") 0 x.length 1).isEmpty = false) : wholeF x = x := by
  rw [star_occ] at h
  unfold wholeF
  rw [if_pos (by simpa using h)]
noncomputable def farStep (y : Str) (ps : List Int) (c : Int) : List Int :=
  if c = 42 then (match ps with | [] => [] | p :: _ => rangeKs p ((y.length : Int) + 1 - p).toNat)
  else (ps.filter fun p => decide ((y.cps[p.toNat]?).map Int.ofNat = some c)).map (· + 1)
noncomputable def farRun (y : Str) (pre : List Int) : List Int := pre.foldl (farStep y) [0]
noncomputable def farF (y x : Str) : Int := ((farRun y (codes (wholeF x))).getLast?).getD (-1)
theorem farRun_take {y : Str} {cs : List Int} {i : Nat} {c : Int} (h : cs[i]? = some c) : farRun y (cs.take (i + 1)) = farStep y (farRun y (cs.take i)) c := by
  have : cs.take (i + 1) = cs.take i ++ [c] := by rw [List.take_add_one, h]; rfl
  rw [this]
  unfold farRun
  rw [List.foldl_append]
  rfl
theorem mem_rangeKs {p k : Int} {n : Nat} (h : k ∈ rangeKs p n) : p ≤ k ∧ k < p + n := by
  unfold rangeKs at h
  obtain ⟨j, hj, rfl⟩ := List.mem_map.mp h
  have := List.mem_range.mp hj
  constructor <;> omega
theorem farStep_ok {y : Str} {ps : List Int} {c : Int} (h : ∀ p ∈ ps, 0 ≤ p ∧ p ≤ y.length) (hl : ps.length ≤ y.length + 1) : (∀ p ∈ farStep y ps c, 0 ≤ p ∧ p ≤ y.length) ∧ (farStep y ps c).length ≤ y.length + 1 := by
  unfold farStep
  split
  · cases ps with
    | nil => exact ⟨fun p hp => (nomatch hp), Nat.zero_le _⟩
    | cons q r =>
      have h0 := h q (.head _)
      refine ⟨fun p hp => ?_, ?_⟩
      · have := mem_rangeKs hp
        omega
      · show (rangeKs _ _).length ≤ _
        unfold rangeKs
        simp
        omega
  · refine ⟨fun p hp => ?_, ?_⟩
    · obtain ⟨q, hq, rfl⟩ := List.mem_map.mp hp
      obtain ⟨hq1, hq2⟩ := List.mem_filter.mp hq
      have h0 := h q hq1
      have : y.cps[q.toNat]? ≠ none := fun e => by rw [e] at hq2; simp at hq2
      have h1 : q.toNat < y.cps.size := by
        rcases Nat.lt_or_ge q.toNat y.cps.size with z | z
        · exact z
        · exact absurd (Array.getElem?_eq_none z) this
      have : y.length = y.cps.size := rfl
      omega
    · rw [List.length_map]
      exact Nat.le_trans (List.length_filter_le _ _) hl
theorem farRun_ok (y : Str) (pre : List Int) : (∀ p ∈ farRun y pre, 0 ≤ p ∧ p ≤ y.length) ∧ (farRun y pre).length ≤ y.length + 1 := by
  unfold farRun
  have : ∀ (l : List Int) (ps : List Int), (∀ p ∈ ps, 0 ≤ p ∧ p ≤ y.length) → ps.length ≤ y.length + 1 → (∀ p ∈ l.foldl (farStep y) ps, 0 ≤ p ∧ p ≤ y.length) ∧ (l.foldl (farStep y) ps).length ≤ y.length + 1 := by
    intro l
    induction l with
    | nil => intro ps h1 h2; exact ⟨h1, h2⟩
    | cons c r ih => intro ps h1 h2; exact ih _ (farStep_ok h1 h2).1 (farStep_ok h1 h2).2
  exact this pre [0] (fun p hp => by
    have : p = 0 := by simpa using hp
    subst this
    omega) (by simp)
end Lw
end
example : True := by k_with_none; w_top off; trivial
section
open PySem PySem.W PyProof.Rows
namespace Lw
example : True := by
  k_with_none
  k_with "omega" => ((fail_if_success (fail_if_success (omega (config := {})))); first | lia | omega (config := {}))
  trivial
noncomputable abbrev fzObj (led : Bool) : Obj := { cls := .type "frozenset", dict := none, data := .set #[] 0 (.fresh 0 0 led) }
theorem slot_fz_init : Slot "frozenset" "__init__" "object.__init__" :=
  .of (owner := "object") (n := "__init__") (by rw [typeLookup_type, builtinLookup_eq_fast]; kernel_rfl) (by decide +kernel) (by decide +kernel) (by decide +kernel)
    (by first | exact .inl (by decide +kernel) | exact .inr (by decide +kernel)) (by rw [isSubtype_type]; kernel_rfl)
theorem mro_fz : mroOf (.type "frozenset") = pure [.type "frozenset", .type "object"] := by rw [mroOf_type]; kernel_rfl
theorem lookup_fz_new : typeLookup (.type "frozenset") "__new__" = pure (some (.builtin "frozenset.__new__")) := by rw [typeLookup_type, builtinLookup_eq_fast]; kernel_rfl
theorem lookup_fz_init : typeLookup (.type "frozenset") "__init__" = pure (some (.builtin "object.__init__")) := by rw [typeLookup_type, builtinLookup_eq_fast]; kernel_rfl
theorem called_fz : TypeCalled "frozenset" "frozenset.__new__" "object.__init__" :=
  ⟨by decide +kernel, by decide +kernel, ⟨_, _, mro_fz⟩, madeBy_type mro_fz lookup_fz_new (by decide +kernel), by decide +kernel, by rw [isSubtype_type]; kernel_rfl, slot_fz_init⟩
theorem typeCall_fz_0 : checkTypeCall "frozenset" ⟨[], []⟩ = pure () := by kernel_rfl
theorem newCall_fz_0 : checkBuiltinCall "frozenset.__new__" ⟨[.type "frozenset"], []⟩ = pure () := by kernel_rfl
theorem entry_fz_new : entryFor table "frozenset.__new__" = some Builtin.«frozenset.__new__» := entryFor_of_tree (by kernel_rfl)
theorem args_object_init_1 (a : Value) : argsOk "object.__init__" ⟨[a], []⟩ := by
  unfold argsOk; rw [signature?_of (id := "object.__init__") (n := ['_', '_', 't', 'i', 'n', 'i', '_', '_']) (o := ['t', 'c', 'e', 'j', 'b', 'o']) (by kernel_rfl) F.owner_object]; kernel_rfl
theorem sub_fz : isSubtype (.type "frozenset") (.type "frozenset") = pure true := by rw [isSubtype_type]; kernel_rfl
theorem meets_fz_new : Meets (Builtin.«frozenset.__new__» ⟨[.type "frozenset"], []⟩) (fun _ R s => ∀ led : Bool, R (.ok (.ret (.ref s.heap.objs.size))) { s with heap := s.heap.push (fzObj led) }) :=
  .of_wp fun prog w A R s h => by
    obtain ⟨hp, g, d, tk, os⟩ := s
    have hsub := sub_fz
    unfold Builtin.«frozenset.__new__» Builtin.Frozenset.newClass
    dsimp only
    wp_walk
    refine wpAny_of_eq lookup_fz_init ?_
    rw [if_pos (by decide)]
    show wpAny _ _ (noKeywords "frozenset" _ >>= _) _ _ _
    refine wpAny_bind (m := noKeywords "frozenset" _) (wpAny_of_eq (a := ()) rfl ?_)
    show wpAny _ _ (typeNameCut 200 (.type "frozenset") >>= fun n => checkCount n 0 1 0 >>= fun _ => newSet (.type "frozenset") >>= fun r => ret r) _ _ _
    refine wpAny_bind (m := typeNameCut 200 (.type "frozenset")) (wpAny_of_eq (a := "frozenset") (by kernel_rfl) ?_)
    refine wpAny_bind (m := checkCount _ 0 1 0) (wpAny_of_eq (a := ()) rfl ?_)
    unfold newSet setsByText
    refine wpAny_bind (wpAny_bind (wpAny_bind (wpAny_askSetting (wpAny_pure ?_))))
    dsimp only
    simp only [newObj]
    exact wpAny_bind (wpAny_alloc (wpAny_pure (wpAny_pure ⟨_, rfl, h _⟩)))
theorem slot_fz_disj : Slot "frozenset" "isdisjoint" "frozenset.isdisjoint" :=
  .of (owner := "frozenset") (n := "isdisjoint") (by rw [typeLookup_type, builtinLookup_eq_fast]; kernel_rfl) (by decide +kernel) (by decide +kernel) (by decide +kernel)
    (by first | exact .inl (by decide +kernel) | exact .inr (by decide +kernel)) (by rw [isSubtype_type]; kernel_rfl)
theorem type_fz_disj : typeOf (.builtin "frozenset.isdisjoint") = pure (.type "method_descriptor") := by show builtinType _ = _; rw [builtinType_eq_fast]; kernel_rfl
theorem plain_fz : PlainAttrs "frozenset" :=
  ⟨⟨"object.__getattribute__", by rw [typeLookup_type, builtinLookup_eq_fast]; kernel_rfl, by decide +kernel⟩, by rw [typeLookup_type, builtinLookup_eq_fast]; kernel_rfl⟩
theorem args_fz_disj_2 (a b : Value) : argsOk "frozenset.isdisjoint" ⟨[a, b], []⟩ := by
  unfold argsOk; rw [signature?_of (id := "frozenset.isdisjoint") (n := ['t', 'n', 'i', 'o', 'j', 's', 'i', 'd', 's', 'i']) (o := ['t', 'e', 's', 'n', 'e', 'z', 'o', 'r', 'f']) (by kernel_rfl) PySem.W.FB.owner_frozenset]; kernel_rfl
theorem entry_fz_disj : entryFor table "frozenset.isdisjoint" = some Builtin.«frozenset.isdisjoint» := entryFor_of_tree (by kernel_rfl)
theorem entry_fz_loop : entryFor table "frozenset.isdisjoint.loop" = some Builtin.«frozenset.isdisjoint.loop» := entryFor_of_tree (by kernel_rfl)
theorem plain_fz_loop : plainId "frozenset.isdisjoint.loop" = true := by decide +kernel
section
variable {prog : Program} {w : World} {A : Around} {E : Value → Shared → Prop} {s : Shared} {h₀ : Heap} {L : Addr} {m : Str → Option Value} {news : List (Addr × Obj)} {Q : Value → Shared → Prop}
theorem frozen_N (Fh : Fr h₀ L s.heap m) (N : News h₀ L s.heap news)
    (h : ∀ d h' (led : Bool), Fr h₀ L h' m → News h₀ L h' ((d, fzObj led) :: news) → (∀ p ∈ news, p.1 < d) → Q (.ref d) { s with heap := h' }) :
    wpAny (model prog w) A (call (.type "frozenset") []) Q E s := by
  refine callType_new called_fz (by decide) typeCall_fz_0 newCall_fz_0 (fun obj => args_object_init_1 obj) entry_fz_new meets_fz_new fun led => ?_
  exact ⟨⟨_, Heap.get?_push_size _ rfl, rfl⟩, h _ _ led (Fh.push _) (N.push Fh (fzObj led)) (fun p hp => Heap.lt_size (N p hp).1)⟩
theorem getMethod_disj {d : Addr} {led : Bool} {pl : Sem Bool} {Q : Value × List Value → Shared → Prop} (hd : s.heap.get? d = some (fzObj led)) (h : Q (.builtin "frozenset.isdisjoint", [.ref d]) s) :
    wpAny (model prog w) A (getMethod (.ref d) "isdisjoint" pl) Q E s :=
  getMethod_builtin ⟨_, hd, rfl⟩ plain_fz slot_fz_disj type_fz_disj (fun b e => by injection e with e; subst e; exact ⟨_, hd, rfl⟩) h
theorem disj_loop {d I : Addr} {led : Bool} {x : Str} {St : Nat → Heap → Prop} {R : Result → Shared → Prop} (hI : h₀.get? I = none) (hIL : I ≠ L) (hnd : ∀ p ∈ news, p.1 ≠ I) (hd : (d, fzObj led) ∈ news)
    (W : Walks prog w A.in1 I [I] [I] x.cps.size (SignAt x) St) (h : ∀ h' tk, Fr h₀ L h' m → News h₀ L h' news → R (.ok (.ret (.bool true))) { s with heap := h', toks := tk }) :
    ∀ (k i : Nat) (s₁ : Shared), x.cps.size - i = k → i ≤ x.cps.size → s₁ = { s with heap := s₁.heap, toks := s₁.toks } → St i s₁.heap → Fr h₀ L s₁.heap m → News h₀ L s₁.heap news →
      codeAny (model prog w) A (.builtin "frozenset.isdisjoint.loop" ⟨[.ref d, .ref I], []⟩) R s₁ := by
  intro k
  have keepF : ∀ (h h' : Heap), (∀ b o, b ∉ [I] → h.get? b = some o → h'.get? b = some o) → Fr h₀ L h m → Fr h₀ L h' m := fun h h' kp Fr' => by
    have kp' : Heap.ExtBut I h h' := fun b o q e => kp b o (fun z => q (List.mem_singleton.mp z)) e
    refine ⟨Fr'.ns.extBut kp' (Ne.symm hIL), fun b ob e => kp b ob (fun z => ?_) (Fr'.keep b ob e), Fr'.above⟩
    rw [List.mem_singleton.mp z, hI] at e
    cases e
  have keepN : ∀ (h h' : Heap), (∀ b o, b ∉ [I] → h.get? b = some o → h'.get? b = some o) → News h₀ L h news → News h₀ L h' news := fun h h' kp N' p hp =>
    ⟨kp _ _ (fun z => hnd p hp (List.mem_singleton.mp z)) (N' p hp).1, (N' p hp).2⟩
  induction k with
  | zero =>
    intro i s₁ hk hi hs st F1 N1
    have e : i = x.cps.size := by omega
    subst e
    refine codeAny_builtin entry_fz_loop ?_
    rw [Around.under_plainId plain_fz_loop _]
    show wpAny _ A.in1 (pyNext (.ref I) >>= _) _ _ s₁
    refine wpAny_bind (W.done s₁ _ _ st fun h' tk kp => ?_)
    rw [hs]
    exact wpAny_pure (h h' tk (keepF _ _ kp F1) (keepN _ _ kp N1))
  | succ k ih =>
    intro i s₁ hk hi hs st F1 N1
    refine codeAny_builtin entry_fz_loop ?_
    rw [Around.under_plainId plain_fz_loop _]
    show wpAny _ A.in1 (pyNext (.ref I) >>= _) _ _ s₁
    refine wpAny_bind (W.item i s₁ _ _ (by omega) st fun v h' tk hv st' kp => ?_)
    obtain ⟨c, u, hc, rfl⟩ := hv
    have F2 := keepF _ _ kp F1
    have N2 := keepN _ _ kp N1
    show wpAny _ A.in1 (holding [.str ⟨#[c]⟩ u] (setContains d (.str ⟨#[c]⟩ u)) >>= _) _ _ _
    refine wpAny_bind (wpAny_holding ?_)
    unfold setContains
    refine wpAny_holding ?_
    refine wpAny_bind ((PySem.strKind prog w).pyHash (k := ⟨#[c]⟩) (by simp [PySem.strKind, Value.isStrOf]) ?_)
    refine wpAny_bind (setFind_any (knd := PySem.strKind prog w) (S := fun _ => false) (by simp [PySem.strKind, Value.isStrOf]) (by simp [Value.scannable]) (N2 _ hd).1 rfl (fun e he => by simp at he) (fun k => by simp) (by decide) (by rfl) fun r hr => ?_)
    refine wpAny_pure ?_
    rw [hr]
    refine wpAny_pure ⟨plainId_quiet plain_fz_loop _, ?_⟩
    exact ih (i + 1) _ (by omega) (by omega) (by rw [hs]) st' F2 N2
theorem call_disj {d : Addr} {led : Bool} {x : Str} {t : Tok} (hh : A.handled = none) (Fh : Fr h₀ L s.heap m) (N : News h₀ L s.heap news) (hd : (d, fzObj led) ∈ news)
    (h : ∀ h' tk, Fr h₀ L h' m → News h₀ L h' news → Q (.bool true) { s with heap := h', toks := tk }) :
    wpAny (model prog w) A (call (.builtin "frozenset.isdisjoint") [.ref d, .str x t]) Q E s := by
  have hT : s.TypeIs (.ref d) "frozenset" := ⟨_, (N _ hd).1, rfl⟩
  refine wpAny_call (codeAny_call_builtin slot_fz_disj.plain entry_fz_disj (slot_fz_disj.check _ _ _ _ _ _ _ _ hT (args_fz_disj_2 _ _) ?_))
  show wpAny _ _ (do
    if (Value.str x t == Value.ref d) = true then rule "frozenset.isdisjoint.itself"; return ← ret (.bool ((← Builtin.Frozenset.sizeOf d) == 0))
    let t' ← typeOf (.str x t)
    if t' == .type "set" || t' == .type "frozenset" then
      let o ← Builtin.Frozenset.addrOf (.str x t)
      let (asked, walked) := if (← Builtin.Frozenset.sizeOf o) > (← Builtin.Frozenset.sizeOf d) then (o, d) else (d, o)
      let was ← setEpoch walked
      for (h, x) in ← Builtin.Frozenset.walkUnseen walked asked do
        if (← holding [x] (setFind asked x h)).isSome then return ← ret (.bool false)
        Builtin.Frozenset.unchanged "frozenset.isdisjoint" walked was
      return ← ret (.bool true)
    again (.builtin "frozenset.isdisjoint.loop" ⟨[.ref d, ← pyIter (.str x t)], []⟩)) _ _ _
  rw [if_neg (show ¬ (Value.str x t == Value.ref d) = true from Bool.false_ne_true)]
  refine wpAny_bind (m := typeOf _) (wpAny_of_eq (a := .type "str") rfl ?_)
  rw [if_neg (by decide)]
  refine wpAny_bind (wpAny_pyIter_str fun o St W st => ?_)
  have F1 := Fh.push o
  have hnone : h₀.get? s.heap.objs.size = none := by
    cases e : h₀.get? s.heap.objs.size with
    | none => rfl
    | some q => exact absurd (Heap.lt_size (Fh.keep _ _ e)) (Nat.lt_irrefl _)
  have hL : s.heap.objs.size ≠ L := by
    obtain ⟨oL, _, _, hL, _⟩ := Fh.ns
    exact fun q => absurd (Heap.lt_size hL) (by rw [q]; exact Nat.lt_irrefl _)
  refine wpAny_pure ⟨plainId_quiet plain_fz_loop _, ?_⟩
  exact disj_loop (h₀ := h₀) (L := L) (m := m) (news := news) hnone hL (fun p hp => Nat.ne_of_lt (Heap.lt_size (N p hp).1)) hd (W _ (by exact hh)) (fun h' tk a b => h h' tk a b) _ 0 { s with heap := s.heap.push o } rfl (Nat.zero_le _) rfl st F1 (N.pushKeep o)
end
end Lw
end
example : True := by k_with_none; w_top off; trivial
section
open PySem PySem.W PyProof.Rows
namespace Lw
section
variable {M : Model} {A : Around} {E : Value → Shared → Prop} {s : Shared}
noncomputable def TX (h base : Heap) (e : Addr) (cls fl : Value) : Prop :=
  ∃ oe vs T oT ts, h.get? e = some oe ∧ oe.cls = cls ∧ oe.data = .fields vs ∧ vs[1]? = some (.ref T) ∧ vs[2]? = some .none ∧ base.get? T = none ∧ T ≠ e ∧ h.get? T = some oT ∧ oT.data = .fields ts ∧ ts[3]? = some fl
noncomputable def FX (base : Heap) (l : List Env) (e : Addr) (cls fl : Value) (h : Heap) : Prop := base.StaysIn h ∧ base.get? e = none ∧ h.FunFrames base l ∧ TX h base e cls fl
theorem note_new {base : Heap} {env : Env} {outer : List Env} {L e : Addr} {oe : Obj} {vs : Array Value} {Q : Unit → Shared → Prop}
    (hfr : A.frames = some (env :: outer)) (hl : s.heap.FunFrames base (env :: outer)) (hf : env.frame = some L)
    (he : s.heap.get? e = some oe) (hkb : base.StaysIn s.heap) (hen : base.get? e = none) (hd : oe.data = .fields vs) (h1 : vs[1]? = some .none) (h2 : vs[2]? = some .none)
    (h : ∀ h', FX base (env :: outer) e oe.cls (rawInt L) h' → s.heap.UpToSlots h' → Q () { s with heap := h' }) : wpAny M A (noteFrame (.ref e) env) Q E s := by
  have hsz : 1 < vs.size := (Array.getElem?_eq_some_iff.mp h1).1
  have hene : e ∉ (env :: outer).filterMap (·.frame) := fun hm => by
    obtain ⟨_, o, ho, hnf⟩ := hl.mem hm
    rw [he] at ho; injection ho with ho; subst ho; exact hnf vs hd
  unfold noteFrame
  simp only [hf]
  refine wpAny_bind (wpAny_field he hd h1 ?_)
  rw [if_neg (by decide)]
  refine wpAny_bind (wpAny_frameOf_fun hfr hl hf fun h₁ hs₁ => ?_)
  refine wpAny_bind (wpAny_entryPlaceOf fun pl hpl => ?_)
  unfold EntryCells.newEntry newFields
  refine wpAny_bind (wpAny_newObj_type ?_ (hpl.sizeOk5 _ _ _ _ _))
  have he₁ : h₁.get? e = some oe := (hs₁.2.1 e hene).trans he
  have kb₁ : base.StaysIn h₁ := fun b o hbo => (hs₁.2.1 b fun hm => by rw [(hl.mem hm).1] at hbo; cases hbo).trans (hkb b o hbo)
  generalize hto : ({ cls := .type "traceback", dict := none, data := .fields ([.none, .ref L, .none, rawInt L, .none] ++ (if pl.isEmpty then List.replicate 6 Value.none else pl)).toArray } : Obj) = to
  have htd : to.data = .fields ([.none, .ref L, .none, rawInt L, .none] ++ (if pl.isEmpty then List.replicate 6 Value.none else pl)).toArray := by rw [← hto]
  have hTf : to.isFreed = false := by rw [← hto]; rfl
  have he₂ := Heap.get?_push_of_some (h := h₁) to he₁
  have hTe : h₁.objs.size ≠ e := Nat.ne_of_gt (Heap.lt_size he₁)
  have hd₃ := Obj.data_mapFields hd (·.setIfInBounds 1 (Value.ref h₁.objs.size))
  have he₃ := Heap.get?_update_self (Obj.mapFields (·.setIfInBounds 1 (Value.ref h₁.objs.size))) he₂ (Obj.isFreed_of_fields hd₃)
  have hT₃ := (Heap.get?_update_other (h₁.push to) (Obj.mapFields (·.setIfInBounds 1 (Value.ref h₁.objs.size))) (Ne.symm hTe)).trans (Heap.get?_push_size h₁ hTf)
  have keep : ∀ b o, b ≠ e → h₁.get? b = some o → ((h₁.push to).update e (Obj.mapFields (·.setIfInBounds 1 (Value.ref h₁.objs.size)))).get? b = some o := fun b o hbe hb => by
    rw [Heap.get?_update_other _ _ (Ne.symm hbe)]
    exact Heap.get?_push_of_some _ hb
  have noRecord : ∀ b o, s.heap.get? b = some o → (∀ vs, o.data ≠ .fields vs) → b ≠ e := fun b o hb hnf q => by
    rw [q, he] at hb; injection hb with hb; subst hb; exact hnf vs hd
  refine wpAny_setField he₂ hd hsz (h _ ⟨fun b o hbo => keep b o (fun q => by rw [q, hen] at hbo; cases hbo) (kb₁ b o hbo), hen, hl.of_keeps fun b o hb hnf => ?_, ?_⟩ fun b o hb hnf => ?_)
  · obtain ⟨sl, hs⟩ := hs₁.2.2 b o hb
    exact ⟨_, keep b _ (noRecord b o hb hnf) hs, rfl⟩
  · exact ⟨_, _, h₁.objs.size, _, _, he₃, Obj.cls_mapFields _ _, hd₃, by simp [hsz], by rw [Array.getElem?_setIfInBounds_ne (by decide)]; exact h2, kb₁.fresh, hTe, hT₃, htd, by first | (simp; done) | (rcases hpl with rfl | ⟨_, _, _, _, _, _, _, rfl⟩ <;> simp)⟩
  · obtain ⟨sl, hs⟩ := hs₁.2.2 b o hb
    exact ⟨sl, keep b _ (noRecord b o hb hnf) hs⟩
theorem FX.land {base : Heap} {l : List Env} {e : Addr} {cls fl : Value} {Q : Unit → Shared → Prop} (hh : FX base l e cls fl s.heap) (hQ : ∀ h', FX base l e cls .none h' → s.heap.UpToSlots h' → Q () { s with heap := h' }) :
    wpAny M A (setFlight (.ref e) none) Q E s := by
  obtain ⟨f1, f2, f3, oe, vs, T, oT, ts, he, hc, hd, h1, h2, hbT, hTe, hT, htd, h3⟩ := hh
  unfold setFlight
  refine wpAny_bind (wpAny_field he hd h1 ?_)
  rw [if_pos (show (Value.ref T != Value.none) = true from by simp)]
  have hsz : 3 < ts.size := (Array.getElem?_eq_some_iff.mp h3).1
  have other : ∀ b, b ≠ T → (s.heap.update T (Obj.mapFields (·.setIfInBounds 3 Value.none))).get? b = s.heap.get? b := fun b hb => Heap.get?_update_other _ _ (Ne.symm hb)
  have noRecord : ∀ b o, s.heap.get? b = some o → (∀ vs, o.data ≠ .fields vs) → b ≠ T := fun b o hb hnf q => by
    rw [q, hT] at hb; injection hb with hb; subst hb; exact hnf ts htd
  have hd₃ := Obj.data_mapFields htd (·.setIfInBounds 3 Value.none)
  refine wpAny_setField hT htd hsz (hQ _ ⟨fun b o hbo => (other b fun q => by rw [q, hbT] at hbo; cases hbo).trans (f1 b o hbo), f2, f3.of_keeps fun b o hb hnf => ⟨o, (other b (noRecord b o hb hnf)).trans hb, rfl⟩, ?_⟩
    fun b o hb hnf => ⟨o.slots, (other b (noRecord b o hb hnf)).trans hb⟩)
  exact ⟨oe, vs, T, _, _, (other e (Ne.symm hTe)).trans he, hc, hd, h1, h2, hbT, hTe, Heap.get?_update_self _ hT (Obj.isFreed_of_fields hd₃), hd₃, by simp [hsz]⟩
end
section
variable {prog : Program} {w : World} {A₀ : Around} {E : Value → Shared → Prop} {s' : Shared} {base g g₀ h : Heap} {outer : List Env} {L a e : Addr} {m : Str → Option Value} {name : Str} {scope : Scope} {cd : Value}
  {b₀ : Stmt} {suite : List Stmt} {pos np : Pos} {rest : List ExceptHandler} {Q : Flow → Shared → Prop} {news : List (Addr × Obj)} {KF : Frag}
  {p : Program} {loose : List Str} {mean : ExcName → Option Value} {mg mb : Str → Option Value} {x : Str} {X T' : String}
theorem caught_own (hx : Heap.NewExc h s'.heap e X) (F : Fr g L h m) (N : News g L h news) (K : Below A₀ base outer g) (XB : KF.In base) (TB : Top p loose mean mg mb base)
    (D : KtsDicts (outer.filterMap (·.frame)) g) (T0 : KtsTurn (outer.filterMap (·.frame)) g₀ g)
    (ex : nsIn KF mainGlobals x = some none) (hv : bootBuiltins x = some (.type T')) (hn' : x ≠ "__name__")
    (hexc : isSubtype (.type T') (.type "BaseException") = pure true) (hnt : isSubtype (.type ((Manifest.find? T').elim "type" fun y => y.metatype)) (.type "tuple") = pure false) (hsub : isSubtype (.type X) (.type T') = pure true)
    (k : ∀ h' g' oe vs, oe.data = .fields vs → vs[2]? = some .none → KtsTurn (outer.filterMap (·.frame)) g₀ g' → Fr g' L h' m → News g' L h' ((e, oe) :: news) → (∀ p ∈ news, p.1 ≠ e) → Below A₀ base outer g' → KF.In g' → Top p loose mean mg mb g' → KtsDicts (outer.filterMap (·.frame)) g' →
      wpAny (model prog w) ((A₀.deeper (envOf name scope L a cd)).mark (some (.ref e))) (execs (b₀ :: suite) (envOf name scope L a cd)) Q E { s' with heap := h' })
    (hk : scope.kind = .function := by rfl) (hx' : (envOf name scope L a cd).kindOf x = some .globalImplicit := by rfl) (hd : (x == ("__debug__" : Str)) = false := by decide)
    (hE : PassesOwnAt (model prog w) ((A₀.deeper (envOf name scope L a cd)).mark (some (.ref e))) (A₀.deeper (envOf name scope L a cd)) (envOf name scope L a cd) E := by passes_own) :
    wpAny (model prog w) (A₀.deeper (envOf name scope L a cd)) (noteFrame (.ref e) (envOf name scope L a cd))
      (fun _ s₂ => wpAny (model prog w) (A₀.deeper (envOf name scope L a cd)) (setFlight (.ref e) none) (fun _ s₃ =>
        wpAny (model prog w) (A₀.deeper (envOf name scope L a cd)) (handleBy (.ref e) (envOf name scope L a cd) (.ExceptHandler (some (.Name x np)) none (b₀ :: suite) pos :: rest)) Q E s₃) E s₂) E s' := by
  have K' := K.push (name := name) (a := a) (cd := cd) F hk
  let fs := (envOf name scope L a cd :: outer).filterMap (·.frame)
  have hin : ∀ env ∈ (envOf name scope L a cd :: outer), ∀ b, env.frame = some b → b ∈ fs := fun env he b hb => List.mem_filterMap.mpr ⟨env, he, hb⟩
  have st : base.StaysIn (hideAll h fs) := fun b o q => hideAll_get _ (K'.stays b o q) fun hm => by
    rw [(K'.frames.mem hm).1] at q; cases q
  have hBG : ∀ b o, h.get? b = some o → b ∉ fs → (hideAll h fs).get? b = some o := fun b o q nm => hideAll_get _ q nm
  have hLB : (hideAll h fs).get? L = none := hideAll_none _ (List.mem_filterMap.mpr ⟨_, .head _, rfl⟩)
  have hl : ∀ q ∈ news, (hideAll h fs).get? q.1 = some q.2 := fun q hq => hideAll_get _ (N q hq).1 fun hm => by
    obtain ⟨env, he, hf⟩ := List.mem_filterMap.mp hm
    rcases List.mem_cons.mp he with rfl | he
    · exact (N q hq).2.1 (Option.some.inj hf).symm
    · obtain ⟨o, ho, _⟩ := (K.frames.mem (List.mem_filterMap.mpr ⟨env, he, hf⟩)).2
      rw [(N q hq).2.2] at ho; cases ho
  obtain ⟨ob, tp, he, hcls, hdd⟩ := hx.there
  have hen : (hideAll h fs).get? e = none := by
    cases q : (hideAll h fs).get? e with
    | none => rfl
    | some o => have := of_hideAll _ q; rw [hx.new] at this; cases this
  have sm0 : h.UpToSlots s'.heap := Heap.UpToSlots.of_keeps hx.keeps
  refine note_new (base := hideAll h fs) K'.stack ((funFrames_hide K'.frames hin).of_keeps fun b o hb _ => ⟨o, hx.keeps b o hb, rfl⟩) rfl he (fun b o hb => hx.keeps b o (of_hideAll _ hb)) hen hdd rfl rfl fun h₄ hh₄ sm₄ => ?_
  refine hh₄.land fun h₅ hh₅ sm₅' => ?_
  have sm₅ := (sm0.trans sm₄).trans sm₅'
  obtain ⟨g₅, T₅, F₅, K₅⟩ := kts_ground K F hBG hh₅.1 sm₅
  have X₅ : KF.In g₅ := XB.keeps K₅.stays
  have P₅ : TopRead p loose mg mb g₅ := topRead_of (TB.keeps K₅.stays)
  have there₅ : ∃ ob, h₅.get? e = some ob ∧ ob.cls = .type X := by
    obtain ⟨_, _, _, oe, _, _, _, _, q1, q2, _⟩ := hh₅
    exact ⟨oe, q1, q2.trans hcls⟩
  obtain ⟨ob₅, hob, hobc⟩ := there₅
  refine wpAny_handleBy_builtin (X := X) (T := T') (b := true) hexc hnt hsub (name_B F₅ X₅ P₅ ex hv hn' ⟨rfl, ⟨ob₅, hob, hobc⟩, ?_⟩ hk hx' hd)
  refine hh₅.land fun h₆ hh₆ sm₆' => ?_
  have sm₆ := sm₅.trans sm₆'
  obtain ⟨g₆, T₆, F₆, K₆⟩ := kts_ground K F hBG hh₆.1 sm₆
  obtain ⟨y1, y2, y3, oe, vs, T, oT, ts, z1, z2, z3, z4, z5, z6⟩ := hh₆
  have ne₆ : g₆.get? e = none := T₆.none_ _ (kts_none F.keep hx.new)
  have neL : e ≠ L := fun q => by
    obtain ⟨oL, _, _, hL, _⟩ := F.ns
    have := hx.new
    rw [q, hL] at this
    cases this
  have Nl : News g₆ L h₆ ((e, oe) :: news) := fun q hq => by
    rcases List.mem_cons.mp hq with rfl | hq
    · exact ⟨z1, neL, ne₆⟩
    · exact ⟨y1 _ _ (hl q hq), (N q hq).2.1, T₆.none_ _ (N q hq).2.2⟩
  have hne : ∀ p ∈ news, p.1 ≠ e := fun q hq z => by
    have := (N q hq).1
    rw [z, hx.new] at this
    cases this
  exact wpAny_passesOwnAt hE (k h₆ g₆ oe vs z3 z5 (T0.trans T₆) F₆ Nl hne K₆ (XB.keeps K₆.stays) (TB.keeps K₆.stays) (D.turn T₆))
end
end Lw
end
example : True := by k_with_none; w_top off; trivial
section
open PySem PySem.W PyProof.Rows
namespace Lw
noncomputable def ComesLv (prog : Program) (w : World) (dd cc : Nat) (f : Addr) (news : List (Addr × Obj)) (vs : List Value) (kw : List (Str × Value)) (P : Value → List (Addr × Obj) → Prop) (p : Program) (loose : List Str) (mean : ExcName → Option Value) (mg mb : Str → Option Value) (dp un : Nat) (gd : Option (List Code)) (cn : Str) (cs : Scope) (a : Addr) (ccd : Value) (cl : List (Str × Addr)) (outer : List Env) (hd' : Option Value) (A₀ : Around) (base h₀ : Heap) (L : Addr) (m : Str → Option Value) (s : Shared) (Q E : Value → Shared → Prop) : Prop :=
    Below A₀ base outer h₀ → Fr h₀ L s.heap m → (hd.heap_1 w.params).In h₀ → News h₀ L s.heap news → Top p loose mean mg mb h₀ → CodeHd base 108 104 → CodeHd base 160 156 → cs.kind = .function → dp + dd < recursionLimit → un + cc < cLine →
    (∀ v nw h' tk', P v nw → Fr h₀ L h' m → News h₀ L h' nw → Q v { s with heap := h', toks := tk' }) →
    wpAny (model prog w) { handled := hd', depth := dp, frames := some (envX cn cs L a ccd cl :: outer), guards := gd, units := un } (call (.ref f) vs kw) Q E s
noncomputable def ComesL (prog : Program) (w : World) (dd cc : Nat) (f : Addr) (news : List (Addr × Obj)) (vs : List Value) (kw : List (Str × Value)) (P : Value → List (Addr × Obj) → Prop) : Prop :=
  ∀ (p : Program) (loose : List Str) (mean : ExcName → Option Value) (mg mb : Str → Option Value) (dp un : Nat) (gd : Option (List Code)) (cn : Str) (cs : Scope) (a : Addr) (ccd : Value) (cl : List (Str × Addr)) (outer : List Env) (hd' : Option Value) (A₀ : Around)
    (base h₀ : Heap) (L : Addr) (m : Str → Option Value) (s : Shared) (Q E : Value → Shared → Prop),
    ComesLv prog w dd cc f news vs kw P p loose mean mg mb dp un gd cn cs a ccd cl outer hd' A₀ base h₀ L m s Q E
noncomputable def ComesSv (prog : Program) (w : World) (dd cc : Nat) (f : Addr) (news : List (Addr × Obj)) (vs : List Value) (P : Value → List (Addr × Obj) → Prop) (p : Program) (loose : List Str) (mean : ExcName → Option Value) (mg mb : Str → Option Value) (dp un : Nat) (gd : Option (List Code)) (cn : Str) (cs : Scope) (a : Addr) (ccd : Value) (outer : List Env) (A₀ : Around) (base h₀ : Heap) (L : Addr) (m : Str → Option Value) (s : Shared) (Q E : Value → Shared → Prop) : Prop :=
    Below A₀ base outer h₀ → Fr h₀ L s.heap m → (hd.heap_1 w.params).In h₀ → News h₀ L s.heap news → Top p loose mean mg mb h₀ → (hd.heap_1 w.params).In base → Top p loose mean mg mb base → CodeHd base 108 104 → CodeHd base 160 156 →
    KtsDicts (outer.filterMap (·.frame)) h₀ → cs.kind = .function → dp + dd < recursionLimit → un + cc < cLine →
    (∀ v nw h' tk' h₀', P v nw → KtsTurn (outer.filterMap (·.frame)) h₀ h₀' → Fr h₀' L h' m → News h₀' L h' nw → Below A₀ base outer h₀' → (hd.heap_1 w.params).In h₀' → Top p loose mean mg mb h₀' → KtsDicts (outer.filterMap (·.frame)) h₀' →
      Q v { s with heap := h', toks := tk' }) →
    wpAny (model prog w) (ktrTop dp un gd cn cs L a ccd [] outer) (call (.ref f) vs) Q E s
noncomputable def ComesS (prog : Program) (w : World) (dd cc : Nat) (f : Addr) (news : List (Addr × Obj)) (vs : List Value) (P : Value → List (Addr × Obj) → Prop) : Prop :=
  ∀ (p : Program) (loose : List Str) (mean : ExcName → Option Value) (mg mb : Str → Option Value) (dp un : Nat) (gd : Option (List Code)) (cn : Str) (cs : Scope) (a : Addr) (ccd : Value) (outer : List Env) (A₀ : Around)
    (base h₀ : Heap) (L : Addr) (m : Str → Option Value) (s : Shared) (Q E : Value → Shared → Prop),
    ComesSv prog w dd cc f news vs P p loose mean mg mb dp un gd cn cs a ccd outer A₀ base h₀ L m s Q E
noncomputable abbrev errObj (t : Addr) : Obj := { cls := .ref 92, data := .fields #[.ref t, .none, .none, .none, .bool false, .none] }
noncomputable abbrev tupOne (v : Value) : Obj := { cls := .type "tuple", data := .seq #[v] }
end Lw
end
example : True := by k_with_none; w_top off; trivial
section
open PySem PySem.W PyProof.Rows
namespace Lw
section
variable {prog : Program} {w : World} {A : Around} {E : Value → Shared → Prop} {s : Shared} {h₀ : Heap} {L : Addr} {m : Str → Option Value} {news : List (Addr × Obj)} {Q : Value → Shared → Prop}
theorem make_err {C : Addr} {y : Str} {mg : Str → Option Value} {v : Value} (Fh : Fr h₀ L s.heap m) (N : News h₀ L s.heap news) (O : OwnCls y C [.type "ValueError", .type "Exception", .type "BaseException", .type "object"] "ValueError.__new__" mg h₀)
    (h : ∀ e t h', Fr h₀ L h' m → News h₀ L h' ((e, { cls := .ref C, data := .fields #[.ref t, .none, .none, .none, .bool false, .none] }) :: (t, tupOne v) :: news) → (∀ p ∈ news, p.1 ≠ e ∧ p.1 ≠ t) → e ≠ t → Q (.ref e) { s with heap := h' }) :
    wpAny (model prog w) A (call (.ref C) [v]) Q E s := by
  obtain ⟨bm, N', nm, q, bs, hdct, sn, sub, ab, col, dd, k0, k1, k2, k3, k5, mN, hC, hN, hni, TL⟩ := O.obj
  obtain ⟨hp, g, d, tk, os⟩ := s
  have hC' := Fh.keep _ _ hC
  have hN' : hp.Ns N' mN := hN.keeps Fh.keep
  have TL' := TL.keeps Fh.keep
  refine wpAny_call_exc_subT PySem.F.excBase_ValueError TL' hC' hN' hni (fun h' e hm => ?_) (by size_fits)
  obtain ⟨t, ht1, ht2, ht3⟩ := hm.there
  have F' : Fr h₀ L h' m := Fh.keeps hm.keeps
  have en : ∀ b, hp.get? b = none → h₀.get? b = none := fun b e => kts_none Fh.keep e
  have nL : ∀ b, hp.get? b = none → b ≠ L := fun b e q => by
    obtain ⟨oL, _, _, hL, _⟩ := Fh.ns
    rw [q, hL] at e
    cases e
  have ne : ∀ b, hp.get? b = none → ∀ p ∈ news, p.1 ≠ b := fun b e p hp' q => by
    have := (N p hp').1
    rw [q, e] at this
    cases this
  refine h e t h' F' (fun p hp' => ?_) (fun p hp' => ⟨ne e hm.new p hp', ne t ht2 p hp'⟩) (fun q => ?_)
  · rcases List.mem_cons.mp hp' with rfl | hp'
    · exact ⟨ht1, nL _ hm.new, en _ hm.new⟩
    rcases List.mem_cons.mp hp' with rfl | hp'
    · exact ⟨ht3, nL _ ht2, en _ ht2⟩
    · exact ⟨hm.keeps _ _ (N p hp').1, (N p hp').2⟩
  · rw [q, ht3] at ht1
    cases ht1
end
end Lw
end
example : True := by k_with_none; w_top off; trivial
section
open PySem PySem.W PyProof.Rows
namespace Lw
example : True := by
  k_with_none
  k_with "omega" => ((fail_if_success (fail_if_success (omega (config := {})))); first | lia | omega (config := {}))
  k_with "callWith ref" => ((k_here; k_dflt (refine' callWith_K ?kAw90 ?kBw90 ?_; (case kAw90 => k_asm); (case kBw90 => k_is); k_whole)))
  k_with "eval Name" => ((k_here; (fail_if_success (with_reducible show wpAny _ _ (eval (Expr.Name _ _) (compEnvC _ _ _ _)) _ _ _)); k_dflt (first | (refine' nameX_L ?Fw91 ?vw91 ?_ ?aw91 ?bw91; (case bw91 => rfl); (case Fw91 => k_asm); (case aw91 => rfl); (case vw91 => rfl); k_whole) | (refine' nameX_C ?Nw92 ?cw92 ?mw92 ?dw92 ?_ ?aw92 ?bw92; (case bw92 => rfl); (case aw92 => rfl); (case Nw92 => k_asm); (case cw92 => rfl); (case mw92 => k_mem); (case dw92 => k_asm); k_whole) | (refine' nameX_K ?Fw93 ?Xw93 ?Tw93 ?ew93 ?_ ?aw93 ?bw93; (case bw93 => rfl); (case Fw93 => k_asm); (case Xw93 => k_asm); (case Tw93 => k_asm); (case aw93 => rfl); (case ew93 => k_is); k_whole) | (refine' nameX_B ?Fw94 ?Xw94 ?Tw94 ?ew94 ?vw94 ?nw94 ?_ ?aw94 ?bw94; (case bw94 => rfl); (case Fw94 => k_asm); (case Xw94 => k_asm); (case Tw94 => k_asm); (case aw94 => rfl); (case ew94 => k_is); (case vw94 => boot_fast); (case nw94 => decide); k_whole))))
  k_with "execs cons" => ((k_here; refine execs_G ?_; intro G9w hG9w))
  k_with "Go" => (((try dsimp only); first | (refine go_next_S (by with_reducible assumption) ?_; intro tSw) | refine go_ret (by with_reducible assumption) ?_ | refine go_cont (by with_reducible assumption) ?_ | refine go_brk (by with_reducible assumption) ?_))
  k_with "k_ne" => ((with_reducible first | assumption | exact Ne.symm (by assumption) | exact Nat.ne_of_lt (by assumption) | exact Ne.symm (Nat.ne_of_lt (by assumption)) | fail "k_ne"))
  k_with "ktr_room" => (first | exact room_a (by with_reducible assumption) rfl | exact room_b (by with_reducible assumption) rfl | exact room_c (by with_reducible assumption) rfl | fail "room")
  k_with "ktr_units" => (first | exact room_a (by with_reducible assumption) rfl | exact room_b (by with_reducible assumption) rfl | exact room_c (by with_reducible assumption) rfl | fail "room")
  k_with "k_room" => (ktr_room)
  trivial
noncomputable def TabA (tb : List (Addr × Obj)) : Prop :=
  tb = [(104, tabObj #[])] ∨ ∃ c oc vs t, tb = [(c, oc), (104, tabObj (#[] ++ #[rawInt ((89 : Nat) : Int), rawInt ((4 : Nat) : Int), .ref c]))] ∧ oc.data = .fields vs ∧ vs[1]? = some (.str (Str.ofString "suffixed_err.<locals>.coord_repr") t)
noncomputable def errText (y : Str) : Str := Str.empty ++ y ++ Str.ofString " (at " ++ Str.ofString "end of document" ++ Str.ofString ")"
noncomputable def ErrOut (rest : List (Addr × Obj)) (y : Str) (v : Value) (nw : List (Addr × Obj)) : Prop :=
  ∃ e t u tb, v = .ref e ∧ TabA tb ∧ nw = (e, errObj t) :: (t, tupOne (.str (errText y) u)) :: (tb ++ rest) ∧ e ≠ t ∧ ∀ p ∈ tb ++ rest, p.1 ≠ e ∧ p.1 ≠ t
example : True := by
  k_with "k_updF" => ((refine' UpdF.head ?aw67; (case aw67 => assumption)))
  trivial
theorem len_text (s : String) (n : Nat) (h : (Str.ofString s).length = n := by decide) : (Str.ofString s).length = n := h
example : True := by
  k_with "joinParts" => (((with_reducible refine joinParts_nilE ?_); (with_reducible refine joinParts_nil (hsz := ?hszw68) ?_); (case hszw68 => (rw [sizeLine_eq]; simp only [Str.length_append]; have e1w := len_text " (at " 5; have e2w := len_text ")" 1; have e3w := len_text "end of document" 15; have e4w := len_text "" 0; have e5w := len_text "Expected " 9; have e6w : Str.empty.length = 0 := rfl; omega))))
  k_with "call ref" => (((with_reducible show wpAny _ _ (call (Value.ref 92) [Value.str _ _]) _ _ _); k_here; k_dflt (refine' make_err ?Fw69 ?Nw69 ?Ow69 ?_; (case Fw69 => k_asm); (case Nw69 => k_asm); (case Ow69 => (refine' own_of_in (x := Str.ofString "TOMLDecodeError") ?aw69 ?bw69 ?cw69 ?dw69; (case aw69 => k_asm); (case bw69 => k_asm); (case cw69 => k_is); (case dw69 => k_exc)))); intro e'w t'w h'w F'w N'w l1w l2w))
  trivial
theorem err_fin {h₀ h' : Heap} {L e t f c : Addr} {fo oc : Obj} {u tq : Tok} {vs : Array Value} {rest : List (Addr × Obj)} {y : Str} {G : Prop}
    (N : News h₀ L h' ((e, errObj t) :: (t, tupOne (.str (Str.empty ++ y ++ Str.ofString " (at " ++ Str.ofString "end of document" ++ Str.ofString ")") u)) :: (f, fo) :: (c, oc) :: (104, tabObj (#[] ++ #[rawInt ((89 : Nat) : Int), rawInt ((4 : Nat) : Int), .ref c])) :: rest))
    (l1 : ∀ p ∈ (f, fo) :: (c, oc) :: (104, tabObj (#[] ++ #[rawInt ((89 : Nat) : Int), rawInt ((4 : Nat) : Int), .ref c])) :: rest, p.1 ≠ e ∧ p.1 ≠ t) (l2 : e ≠ t) (hd : oc.data = .fields vs) (hv : vs[1]? = some (.str (Str.ofString "suffixed_err.<locals>.coord_repr") tq))
    (k : ∀ nw, ErrOut rest y (.ref e) nw → News h₀ L h' nw → G) : G :=
  k _ ⟨e, t, u, [(c, oc), (104, tabObj (#[] ++ #[rawInt ((89 : Nat) : Int), rawInt ((4 : Nat) : Int), .ref c]))], rfl, .inr ⟨c, oc, vs, tq, rfl, hd, hv⟩, rfl, l2, fun p hp => l1 p (.tail _ hp)⟩ (KStt.news_of N fun p hp => by
    rcases List.mem_cons.mp hp with rfl | hp
    · exact .head _
    rcases List.mem_cons.mp hp with rfl | hp
    · exact .tail _ (.head _)
    · exact .tail _ (.tail _ (.tail _ hp)))
theorem err_new (prog : Program) (w : World) (rest : List (Addr × Obj)) (x y : Str) (i : Int) (t t' tk : Tok) (hx : x.length ≤ 1000) (hy : y.length ≤ 1000) (h0 : (x.length : Int) ≤ i) (hi : i ≤ 1000) (hr : ∀ p ∈ rest, p.1 ≠ 104) : ComesL prog w 10 100 109 ((104, tabObj #[]) :: rest) [.str x t, .int i tk, .str y t'] [] (ErrOut rest y) := by
  unfold ComesL
  intro p loose mean mg mb dp un gd cn cs a ccd cl outer hd' A₀ base h₀ L m s Q E B F X N T C1 C2 hk hd hu hret
  refine wpAny_call ?_
  k_dflt cell_enter
  k_steps
  exact err_fin (by assumption) (by assumption) (by assumption) (by assumption) (by assumption) fun nw hP hN => hret _ _ _ _ hP (by assumption) hN
theorem err_old (prog : Program) (w : World) (rest : List (Addr × Obj)) (c : Addr) (oc : Obj) (vs : Array Value) (tq : Tok) (hoc : oc.data = .fields vs) (hov : vs[1]? = some (.str (Str.ofString "suffixed_err.<locals>.coord_repr") tq)) (x y : Str) (i : Int) (t t' tk : Tok) (hx : x.length ≤ 1000) (hy : y.length ≤ 1000) (h0 : (x.length : Int) ≤ i) (hi : i ≤ 1000) : ComesL prog w 10 100 109 ((c, oc) :: (104, tabObj (#[] ++ #[rawInt ((89 : Nat) : Int), rawInt ((4 : Nat) : Int), .ref c])) :: rest) [.str x t, .int i tk, .str y t'] [] (ErrOut rest y) := by
  unfold ComesL
  intro p loose mean mg mb dp un gd cn cs a ccd cl outer hd' A₀ base h₀ L m s Q E B F X N T C1 C2 hk hd hu hret
  refine wpAny_call ?_
  k_dflt cell_enter
  k_steps
  exact err_fin (by assumption) (by assumption) (by assumption) (by assumption) (by assumption) fun nw hP hN => hret _ _ _ _ hP (by assumption) hN
theorem err_call (prog : Program) (w : World) (tb rest : List (Addr × Obj)) (x y : Str) (i : Int) (t t' tk : Tok) (ht : TabA tb) (hx : x.length ≤ 1000) (hy : y.length ≤ 1000) (h0 : (x.length : Int) ≤ i) (hi : i ≤ 1000) (hr : ∀ p ∈ rest, p.1 ≠ 104) : ComesL prog w 10 100 109 (tb ++ rest) [.str x t, .int i tk, .str y t'] [] (ErrOut rest y) := by
  rcases ht with rfl | ⟨c, oc, vs, tq, rfl, h1, h2⟩
  · exact err_new prog w rest x y i t t' tk hx hy h0 hi hr
  · exact err_old prog w rest c oc vs tq h1 h2 x y i t t' tk hx hy h0 hi
end Lw
end
example : True := by k_with_none; w_top off; trivial
section
open PySem PySem.W PyProof.Rows
namespace Lw
section
variable {M : Model} {A : Around} {E : Value → Shared → Prop} {s' : Shared} {base g : Heap} {outer : List Env} {L a e t : Addr} {m : Str → Option Value} {name : Str} {scope : Scope} {cd : Value} {Q : Unit → Shared → Prop} {news : List (Addr × Obj)}
theorem leave_held {eo : Obj} {vs : Array Value} {cls v : Value} (K : Below A base outer g) (F : Fr g L s'.heap m) (N : News g L s'.heap ((e, eo) :: (t, tupOne v) :: news)) (hc : eo.cls = cls) (hd : eo.data = .fields vs) (h0 : vs[0]? = some (.ref t)) (h1 : vs[1]? = some .none)
    (dis : ∀ p ∈ news, p.1 ≠ e ∧ p.1 ≠ t)
    (hQ : ∀ h', RaisedS base g outer e cls t [v] news h' → RaisedK base outer e cls t [v] news h' → g.UpToSlots h' → Q () { s' with heap := h' }) (hk : scope.kind = .function := by rfl) :
    wpAny M (A.deeper (envOf name scope L a cd)) (leaving (envOf name scope L a cd) (.ref e)) Q E s' := by
  have K' := K.push (name := name) (a := a) (cd := cd) F hk
  have Ne := N _ (.head _)
  have Nt := N _ (.tail _ (.head _))
  let fs := e :: t :: (envOf name scope L a cd :: outer).filterMap (·.frame)
  have hin : ∀ env ∈ (envOf name scope L a cd :: outer), ∀ b, env.frame = some b → b ∈ fs := fun env he b hb => .tail _ (.tail _ (List.mem_filterMap.mpr ⟨env, he, hb⟩))
  have st : base.StaysIn (hideAll s'.heap fs) := fun b o q => hideAll_get _ (K'.stays b o q) fun hm => by
    rcases List.mem_cons.mp hm with rfl | hm
    · rw [fresh_of_stays K.stays Ne.2.2] at q; cases q
    rcases List.mem_cons.mp hm with rfl | hm
    · rw [fresh_of_stays K.stays Nt.2.2] at q; cases q
    rw [(K'.frames.mem hm).1] at q; cases q
  have sg : ∀ b o, g.get? b = some o → b ∉ outer.filterMap (·.frame) → (hideAll s'.heap fs).get? b = some o := fun b o q nm => hideAll_get _ (F.keep b o q) fun hm => by
    rcases List.mem_cons.mp hm with rfl | hm
    · rw [Ne.2.2] at q; cases q
    rcases List.mem_cons.mp hm with rfl | hm
    · rw [Nt.2.2] at q; cases q
    rcases kts_mem hm with z | z
    · rw [z, kts_self F] at q
      cases q
    · exact nm z
  have hl : ∀ q ∈ news, (hideAll s'.heap fs).get? q.1 = some q.2 ∧ g.get? q.1 = none ∧ base.get? q.1 = none := fun q hq => by
    have Nq := N q (.tail _ (.tail _ hq))
    refine ⟨hideAll_get _ Nq.1 fun hm => ?_, Nq.2.2, fresh_of_stays K.stays Nq.2.2⟩
    rcases List.mem_cons.mp hm with z | hm
    · exact (dis q hq).1 z
    rcases List.mem_cons.mp hm with z | hm
    · exact (dis q hq).2 z
    obtain ⟨env, he, hf⟩ := List.mem_filterMap.mp hm
    rcases List.mem_cons.mp he with rfl | he
    · exact Nq.2.1 (Option.some.inj hf).symm
    · obtain ⟨o, ho, _⟩ := (K.frames.mem (List.mem_filterMap.mpr ⟨env, he, hf⟩)).2
      rw [Nq.2.2] at ho; cases ho
  have hen : (hideAll s'.heap fs).get? e = none := hideAll_none _ (.head _)
  refine wpAny_leaving_firstW (base := hideAll s'.heap fs) K'.stack (funFrames_hide K'.frames hin) rfl Ne.1 (fun b o hb => of_hideAll _ hb) hen hd h1 h0 fun h' hL => ?_
  obtain ⟨k1, ⟨_, _, k2⟩, k3, k4⟩ := hL
  have htup : h'.TupAt t [v] := by
    obtain ⟨sl, hs⟩ := k4 t _ Nt.1 fun ws q => by cases q
    exact ⟨_, 0, hs, rfl, rfl⟩
  have R : RaisedS base g outer e cls t [v] news h' := ⟨⟨_, st, sg, hl, ⟨k1, hen, k2, by rw [← hc]; exact k3⟩, hideAll_none _ (.tail _ (.head _))⟩, htup⟩
  exact hQ h' R R.toK ((Heap.UpToSlots.of_keeps F.keep).trans k4)
end
section
variable {prog : Program} {w : World} {A : Around} {E : Value → Shared → Prop} {s : Shared} {env : Env}
variable {nm q : Str} {C N : Addr} {bs bm : List Value} {hdct : Bool} {sn : List Str} {sub : List Value} {ab : Bool} {col : Option Bool} {dd : Option Addr} {k0 k1 k2 k3 k5 : Option Value} {newId : String}
theorem unchain {e₀ e : Addr} {oe : Obj} {ws : Array Value} {Q : Value → Shared → Prop} (ho : s.heap.get? e₀ = some oe) (hd : oe.data = .fields ws) (h2 : ws[2]? = some .none) (h : Q .none s) :
    wpAny (model prog w) A (runValue (.builtin "proto.unchain" ⟨[.ref e, .ref e₀, .ref e₀, .bool false], []⟩)) Q E s := by
  refine wpAny_runValue (codeAny_builtin (b := Builtin.«proto.unchain») (entryFor_of_tree (by kernel_rfl)) ?_)
  show wpAny _ _ (field (.ref e₀) 2 >>= _) _ _ s
  refine wpAny_bind (wpAny_field ho hd h2 ?_)
  exact wpAny_pure h
noncomputable abbrev errCtx (C t e₀ : Addr) : Obj := { cls := .ref C, data := .fields #[.ref t, .none, .ref e₀, .none, .bool true, .none] }
noncomputable def RaiseAt (nm q : Str) (C N : Addr) (bs bm : List Value) (hdct : Bool) (sn : List Str) (sub : List Value) (ab : Bool) (col : Option Bool) (dd : Option Addr) (k0 k1 k2 k3 k5 : Option Value) (newId : String) (e₀ : Addr) (E : Value → Shared → Prop) (v : Value) (s₁ : Shared) : Prop :=
  ∃ e t oe ws, v = .ref e ∧ s₁.heap.get? C = some (excClassObj nm q C N bs bm hdct sn sub ab col dd k0 k1 k2 k3 k5 newId) ∧ s₁.heap.get? e = some { cls := .ref C, data := .fields #[.ref t, .none, .none, .none, .bool false, .none] } ∧
    s₁.heap.get? e₀ = some oe ∧ oe.data = .fields ws ∧ ws[2]? = some .none ∧ e₀ ≠ e ∧ ∀ h' tk, Heap.SameBut e s₁.heap h' → h'.get? e = some (errCtx C t e₀) → E (.ref e) { s₁ with heap := h', toks := tk }
theorem Raise_from {x : Expr} {e₀ : Addr} {kk : Nat} {cpos pos : Pos} {Q : Flow → Shared → Prop} (hbase : bm.contains (.type "BaseException") = true) (hh : A.handled = some (.ref e₀))
    (h : wpAny (model prog w) A (eval x env) (RaiseAt nm q C N bs bm hdct sn sub ab col dd k0 k1 k2 k3 k5 newId e₀ E) E s) :
    wpAny (model prog w) A (exec (.Raise (some x) (some (.Constant .none kk cpos)) pos) env) Q E s := by
  have hcB : (Value.ref C :: bm).contains (.type "BaseException") = true := by rw [List.contains_cons, hbase, Bool.or_true]
  rw [arm_exec_Raise]
  refine wpAny_bind (wpAny_standAt ?_)
  unfold raiseStmt
  dsimp only [evalOpt, Option.map]
  refine wpAny_bind (wpAny_bind (wpAny_mono h (fun v s₁ h₁ => wpAny_bind (wpAny_standAt (wpAny_pure ?_))) fun _ _ y => y))
  obtain ⟨e, t, oe, ws, rfl, hC, he, ho, hd, h2, hne, hE⟩ := h₁
  refine wpAny_bind (wpAny_holding (wpAny_bind (wpAny_Constant_none (wpAny_bind (wpAny_standAt (wpAny_pure ?_))))))
  refine wpAny_bind (wpAny_pure ?_)
  obtain ⟨hp, g, d, tk, os⟩ := s₁
  refine wpAny_bind (wpAny_holding ?_)
  unfold excFromValue isExcClass
  repeat (first | with_reducible refine wpAny_loadPart_at he ?_ | with_reducible refine wpAny_loadPart_at hC ?_ | (with_reducible refine wpAny_isSubtype_exc hC ?_; rw [hcB]) | wp_step)
  have hCe : e ≠ C := fun z => by
    rw [z, hC] at he
    cases he
  have hC2 : ((hp.update e (Obj.mapFields fun x => x.setIfInBounds 3 Value.none)).update e (Obj.mapFields fun x => x.setIfInBounds 4 (Value.bool true))).get? C = some (excClassObj nm q C N bs bm hdct sn sub ab col dd k0 k1 k2 k3 k5 newId) :=
    (Heap.get?_update_other _ _ hCe).trans ((Heap.get?_update_other _ _ hCe).trans hC)
  have g1 : (hp.update e (Obj.mapFields fun x => x.setIfInBounds 3 Value.none)).get? e = some { cls := .ref C, data := .fields #[.ref t, .none, .none, .none, .bool false, .none] } := Heap.get?_update_self _ he rfl
  have g2 : ((hp.update e (Obj.mapFields fun x => x.setIfInBounds 3 Value.none)).update e (Obj.mapFields fun x => x.setIfInBounds 4 (Value.bool true))).get? e = some { cls := .ref C, data := .fields #[.ref t, .none, .none, .none, .bool true, .none] } := Heap.get?_update_self _ g1 rfl
  have o2 : ((hp.update e (Obj.mapFields fun x => x.setIfInBounds 3 Value.none)).update e (Obj.mapFields fun x => x.setIfInBounds 4 (Value.bool true))).get? e₀ = some oe :=
    (Heap.get?_update_other _ _ (Ne.symm hne)).trans ((Heap.get?_update_other _ _ (Ne.symm hne)).trans ho)
  have sb2 : Heap.SameBut e hp ((hp.update e (Obj.mapFields fun x => x.setIfInBounds 3 Value.none)).update e (Obj.mapFields fun x => x.setIfInBounds 4 (Value.bool true))) := (Heap.SameBut.update ..).trans (Heap.SameBut.update ..)
  revert g2 o2 sb2 hC2
  generalize ((hp.update e (Obj.mapFields fun x => x.setIfInBounds 3 Value.none)).update e (Obj.mapFields fun x => x.setIfInBounds 4 (Value.bool true))) = hp2
  intro hC2 g2 o2 sb2
  refine wpAny_loadPart_at hC2 ?_
  refine wpAny_pure ?_
  rw [if_pos (show ((excClassObj nm q C N bs bm hdct sn sub ab col dd k0 k1 k2 k3 k5 newId).cls == Value.type "type") = true from by simp [excClassObj])]
  refine wpAny_pure (wpAny_bind ?_)
  unfold setFlight
  refine wpAny_bind (wpAny_field g2 rfl (x := .none) rfl ?_)
  rw [if_neg (by decide)]
  refine wpAny_pure ?_
  unfold raiseNew
  refine wpAny_bind (wpAny_handled ?_)
  rw [hh]
  dsimp only
  rw [if_pos (by simp [hne])]
  refine wpAny_bind (wpAny_holding (unchain o2 hd h2 ?_))
  refine wpAny_bind ?_
  unfold updateField
  refine wpAny_bind (wpAny_load g2 ?_)
  dsimp only
  rw [if_pos (show 2 < (#[Value.ref t, Value.none, Value.none, Value.none, Value.bool true, Value.none] : Array Value).size from by simp)]
  refine wpAny_update g2 (wpAny_throw ?_)
  refine hE _ _ (sb2.trans (Heap.SameBut.update ..)) (Heap.get?_update_self _ g2 rfl)
end
end Lw
end
example : True := by k_with_none; w_top off; trivial
section
open PySem PySem.W PyProof.Rows
namespace Lw
noncomputable def seekAt (x y : Str) (i : Int) : Int := match Builtin.Str.occurrences x y (fromIndex x.length i) x.length 1 with | k :: _ => (k : Int) | [] => -1
theorem gives_index_from (x y : Str) (i : Int) (t u v : Tok) (k : Nat) (rest : List Nat) (h : Builtin.Str.occurrences x y (fromIndex x.length i) x.length 1 = k :: rest) : Gives (Builtin.«str.index» ⟨[.str x t, .str y u, .int i v], []⟩) (.int k) := by
  show Gives (match Builtin.Str.occurrences x y (fromIndex x.length i) (min x.length x.length) 1 with | k :: _ => retInt k | [] => (do rule "str.index.not-found"; raiseError "ValueError" "substring not found")) _
  rw [Nat.min_self, h]
  exact .of_eq rfl
open Sem (wp) in
theorem raises_index_from (x y : Str) (i : Int) (t u v : Tok) (h : Builtin.Str.occurrences x y (fromIndex x.length i) x.length 1 = []) : Meets (Builtin.«str.index» ⟨[.str x t, .str y u, .int i v], []⟩) (raisesNew "ValueError") := by
  intro prog w A R s hS
  show wpAny _ _ (match Builtin.Str.occurrences x y (fromIndex x.length i) (min x.length x.length) 1 with | i :: _ => retInt i | [] => _) _ _ s
  rw [Nat.min_self, h]
  first
    | exact wpAny_bind (wpAny_rule (by exact_raiseError plainExc_ValueError hS.1 hS.2))
    | exact wpAny_bind (wpAny_rule (wpAny_bind (by exact_raiseError plainExc_ValueError hS.1 hS.2)))
theorem index3_or {prog : Program} {w : World} {A : Around} {E : Value → Shared → Prop} {s : Shared} {x y : Str} {i : Int} {t u v : Tok} {Q : Value → Shared → Prop} (hA : A.handled = none)
    (h0 : seekAt x y i = -1 → ∀ h' tk e, Heap.NewExc s.heap h' e "ValueError" → E (.ref e) { s with heap := h', toks := tk })
    (h1 : 0 ≤ seekAt x y i → Q (.int (seekAt x y i) s.toks) { s with toks := s.toks + 1 }) :
    wpAny (model prog w) A (call (.builtin "str.index") [.str x t, .str y u, .int i v]) Q E s := by
  cases ho : Builtin.Str.occurrences x y (fromIndex x.length i) x.length 1 with
  | nil =>
    have e : seekAt x y i = -1 := by simp [seekAt, ho]
    exact call_meets F.slot_str_index (typeIs_str _ _ _) F.entry_str_index (F.args_str_index_3 _ _ _) (raises_index_from x y i t u v ho) ⟨hA, h0 e⟩
  | cons k rest =>
    have e : seekAt x y i = (k : Int) := by simp [seekAt, ho]
    have h := h1 (by rw [e]; exact Int.natCast_nonneg k)
    rw [e] at h
    exact call_gives F.slot_str_index (typeIs_str _ _ _) F.entry_str_index (F.args_str_index_3 _ _ _) (gives_index_from x y i t u v k rest ho) h
theorem ComesL.use {prog : Program} {w : World} {dd cc : Nat} {f : Addr} {news : List (Addr × Obj)} {vs : List Value} {kw : List (Str × Value)} {P : Value → List (Addr × Obj) → Prop} (C : ComesL prog w dd cc f news vs kw P)
    {p : Program} {loose : List Str} {mean : ExcName → Option Value} {mg mb : Str → Option Value} {dp un : Nat} {gd : Option (List Code)} {cn : Str} {cs : Scope} {a : Addr} {ccd : Value} {cl : List (Str × Addr)} {outer : List Env} {hd' : Option Value} {A₀ : Around}
    {base h₀ : Heap} {L : Addr} {m : Str → Option Value} {s : Shared} {Q E : Value → Shared → Prop}
    (B : Below A₀ base outer h₀) (F : Fr h₀ L s.heap m) (X : (hd.heap_1 w.params).In h₀) (N : News h₀ L s.heap news) (T : Top p loose mean mg mb h₀) (C1 : CodeHd base 108 104) (C2 : CodeHd base 160 156) (hk : cs.kind = .function) (h1 : dp + dd < recursionLimit) (h2 : un + cc < cLine)
    (ret : ∀ v nw h' tk', P v nw → Fr h₀ L h' m → News h₀ L h' nw → Q v { s with heap := h', toks := tk' }) :
    wpAny (model prog w) { handled := hd', depth := dp, frames := some (envX cn cs L a ccd cl :: outer), guards := gd, units := un } (call (.ref f) vs kw) Q E s :=
  C _ _ _ _ _ _ _ _ _ _ _ _ _ _ _ _ _ _ _ _ _ _ _ B F X N T C1 C2 hk h1 h2 ret
theorem TabA.mem {tb : List (Addr × Obj)} (h : TabA tb) : ∃ o, (104, o) ∈ tb := by
  rcases h with rfl | ⟨c, oc, vs, t, rfl, _⟩
  · exact ⟨_, .head _⟩
  · exact ⟨_, .tail _ (.head _)⟩
theorem err_ne {tb rest : List (Addr × Obj)} {e₀ d : Addr} {oe od : Obj} (ht : TabA tb) (hr : ∀ p ∈ rest, p.1 ≠ 104) (la : ∀ p ∈ (d, od) :: (tb ++ rest), p.1 ≠ e₀) (lb : ∀ p ∈ tb ++ rest, p.1 < d) : ∀ p ∈ (e₀, oe) :: (d, od) :: rest, p.1 ≠ 104 := fun p hp => by
  obtain ⟨o, ho⟩ := ht.mem
  rcases List.mem_cons.mp hp with rfl | hp
  · exact Ne.symm (la _ (.tail _ (List.mem_append_left _ ho)))
  rcases List.mem_cons.mp hp with rfl | hp
  · exact Nat.ne_of_gt (lb _ (List.mem_append_left _ ho))
  · exact hr p hp
theorem err_rot {h₀ h : Heap} {L : Addr} {tb rest : List (Addr × Obj)} {a b : Addr × Obj} (N : News h₀ L h (a :: b :: (tb ++ rest))) : News h₀ L h (tb ++ (a :: b :: rest)) := KStt.news_of N fun p hp => by
  simp only [List.mem_cons, List.mem_append] at hp ⊢
  grind
noncomputable def RaiseK (h₀ : Heap) (C e₀ : Addr) (E : Value → Shared → Prop) (v : Value) (s₁ : Shared) : Prop :=
  ∃ e t oe ws, v = .ref e ∧ (∀ b o, h₀.get? b = some o → s₁.heap.get? b = some o) ∧ s₁.heap.get? e = some { cls := .ref C, data := .fields #[.ref t, .none, .none, .none, .bool false, .none] } ∧
    s₁.heap.get? e₀ = some oe ∧ oe.data = .fields ws ∧ ws[2]? = some .none ∧ e₀ ≠ e ∧ ∀ h' tk, Heap.SameBut e s₁.heap h' → h'.get? e = some (errCtx C t e₀) → E (.ref e) { s₁ with heap := h', toks := tk }
section
variable {prog : Program} {w : World} {A : Around} {E : Value → Shared → Prop} {s s₁ : Shared} {env : Env} {h₀ : Heap} {L e₀ : Addr} {m mg : Str → Option Value}
theorem Raise_K {C : Addr} {y : Str} {x : Expr} {kk : Nat} {cpos pos : Pos} {Q : Flow → Shared → Prop} (O : OwnCls y C [.type "ValueError", .type "Exception", .type "BaseException", .type "object"] "ValueError.__new__" mg h₀) (hh : A.handled = some (.ref e₀))
    (h : wpAny (model prog w) A (eval x env) (RaiseK h₀ C e₀ E) E s) : wpAny (model prog w) A (exec (.Raise (some x) (some (.Constant .none kk cpos)) pos) env) Q E s := by
  obtain ⟨bm, N', nm, q, bs, hdct, sn, sub, ab, col, dd, k0, k1, k2, k3, k5, mN, hC, hN, hni, TL⟩ := O.obj
  refine Raise_from (nm := nm) (q := q) (C := C) (N := N') (bs := bs) (hdct := hdct) (sn := sn) (sub := sub) (ab := ab) (col := col) (dd := dd) (k0 := k0) (k1 := k1) (k2 := k2) (k3 := k3) (k5 := k5) (newId := "ValueError.__new__") (TL.hasType (by decide)) hh (wpAny_mono h (fun v s₁ h₁ => ?_) fun _ _ y => y)
  obtain ⟨e, t, oe, ws, z1, z2, z3⟩ := h₁
  exact ⟨e, t, oe, ws, z1, z2 _ _ hC, z3⟩
theorem raise_go {rest : List (Addr × Obj)} {y : Str} {v : Value} {nw : List (Addr × Obj)} {oe : Obj} {ws : Array Value} (Fh : Fr h₀ L s₁.heap m) (N : News h₀ L s₁.heap nw) (hP : ErrOut rest y v nw) (he : (e₀, oe) ∈ rest) (hd : oe.data = .fields ws) (h2 : ws[2]? = some .none)
    (k : ∀ e t u tb h' tk, v = .ref e → TabA tb → Fr h₀ L h' m → News h₀ L h' ((e, errCtx 92 t e₀) :: (t, tupOne (.str (errText y) u)) :: (tb ++ rest)) → (∀ p ∈ tb ++ rest, p.1 ≠ e ∧ p.1 ≠ t) → E (.ref e) { s₁ with heap := h', toks := tk }) : RaiseK h₀ 92 e₀ E v s₁ := by
  obtain ⟨e, t, u, tb, rfl, ht, rfl, hne, hdis⟩ := hP
  have hmem : (e₀, oe) ∈ tb ++ rest := List.mem_append_right _ he
  refine ⟨e, t, oe, ws, rfl, Fh.keep, (N _ (.head _)).1, (N _ (.tail _ (.tail _ hmem))).1, hd, h2, (hdis _ hmem).1, fun h' tk sb ge => ?_⟩
  refine k e t u tb h' tk rfl ht (Fr.upd1 Fh N sb) (News.upd1 N sb ge fun p hp => ?_) hdis
  rcases List.mem_cons.mp hp with rfl | hp
  · exact Ne.symm hne
  · exact (hdis p hp).1
end
end Lw
end
example : True := by k_with_none; w_top off; trivial
section
open PySem PySem.W PyProof.Rows
namespace Lw
theorem kind_bexc : builtinKind "BaseException.__str__" = some .slot := by kernel_rfl
theorem split_bexc : splitId "BaseException.__str__" = some ("BaseException", "__str__") := by kernel_rfl
theorem bind_bexc (v : Value) : bindSpecial (.builtin "BaseException.__str__") v = pure (.builtin "BaseException.__str__", [v]) := by kernel_rfl
section
variable {prog : Program} {w : World} {A : Around} {E : Value → Shared → Prop} {s : Shared} {h₀ : Heap} {L e t C : Addr} {m mg : Str → Option Value} {K : Frag} {y : Str}
open Builtin Builtin.Str in
theorem str_own {x : Str} {tk : Tok} {oe ot : Obj} {vs : Array Value} {nt : Nat} {Q : Value → Shared → Prop} (hu : A.in1.in1.units < cLine) (Fh : Fr h₀ L s.heap m) (X : K.In h₀)
    (O : OwnCls y C [.type "ValueError", .type "Exception", .type "BaseException", .type "object"] "ValueError.__new__" mg h₀) (hs : findIn K (.ref C) "__str__" = some (some (.builtin "BaseException.__str__")))
    (he : s.heap.get? e = some oe) (hc : oe.cls = .ref C) (hd : oe.data = .fields vs) (h0 : vs[0]? = some (.ref t)) (ht : s.heap.get? t = some ot) (htd : ot.data = .seq #[.str x tk] nt) (hq : Q (.str x tk) s) :
    wpAny (model prog w) A (call (.type "str") [.ref e]) Q E s := by
  obtain ⟨bm, N', nm, q, bs, hdct, sn, sub, ab, col, dd, k0, k1, k2, k3, k5, mN, hC, hN, hni, TL⟩ := O.obj
  have hC' := Fh.keep _ _ hC
  have X' : K.In s.heap := X.keeps Fh.keep
  have hcB : (Value.ref C :: bm).contains (.type "BaseException") = true := by rw [List.contains_cons, TL.hasType (b := true) (by decide), Bool.or_true]
  refine callType_codes (T := "str") (Bi := Builtin.«object.__init__») (Q₁ := fun r s₁ => ∃ y u, r = .str y u ∧ Q r s₁) PySem.F.called_str (PySem.F.typeCall_str_1 _) PySem.F.entry_object_init ?_ ?_
  · refine codeAny_of_tree ?_
    show wpAny _ A.in1.in1 (do checkBuiltinCall "str.__new__" ⟨[.type "str", .ref e], []⟩; again (.builtin "str.__new__" ⟨[.type "str", .ref e], []⟩)) _ _ s
    refine wpAny_bind (wpAny_of_eq (PySem.F.newCall_str_1 _) (wpAny_pure ⟨plainId_quiet (by decide +kernel) _, codeAny_builtin PySem.F.entry_str_new ?_⟩))
    rw [Around.under_plainId (by decide +kernel) _]
    rw [str_new_tree]
    refine wpAny_bind (wpAny_pure ?_)
    refine wpAny_bind (wpAny_of_eq isSubtype_str_str ?_)
    refine wpAny_bind (wpAny_mono (Q := fun r s₁ => ∃ y u, r = .str y u ∧ Q r s₁) ?_ (fun r s₁ hr => wpAny_pure hr) fun _ _ y => y)
    unfold PySem.Builtin.Str.strOf
    rw [show isExactStr (.ref e) = false from rfl]
    refine wpAny_bind (m := cRoomFor _ _) (wpAny_cRoomFor hu ?_)
    refine wpAny_bind (m := callSpecial? (.ref e) (Str.ofString "__str__")) ?_
    refine wpAny_bind (wpAny_bind ?_)
    obtain ⟨hp, g, d, tk', os⟩ := s
    unfold typeOf
    refine wpAny_bind (wpAny_loadPart_at he (wpAny_pure ?_))
    rw [hc]
    refine (looks_findIn X' hs).here ?_
    refine wpAny_holding (wpAny_bind (wpAny_of_eq (bind_bexc _) ?_))
    refine wpAny_bind (wpAny_mono (Q := fun r s₁ => r = .str x tk ∧ Q (.str x tk) s₁) ?_ (fun r s₁ hr => ?_) fun _ _ y => y)
    · refine wpAny_call (codeAny_call_builtin (by decide +kernel) PySem.F.entry_bexc_str ?_)
      have hargs := PySem.F.args_bexc_str (.ref e)
      unfold argsOk at hargs
      simp only [checkBuiltinCall, kind_bexc, split_bexc]
      show wpAny _ _ (isInstance (.ref e) (.type "BaseException") >>= _) _ _ _
      unfold isInstance
      refine wpAny_bind ?_
      repeat (first | (with_reducible refine wpAny_loadPart_at he ?_; rw [hc]) | with_reducible refine wpAny_loadPart_at hC' ?_ | (with_reducible refine wpAny_isSubtype_exc hC' ?_; rw [hcB]) | wp_step)
      rw [hd]
      refine wpAny_pure ?_
      rw [h0]
      refine wpAny_pure ?_
      refine wpAny_bind (wpAny_seqItems ht htd ?_)
      refine wpAny_pure ?_
      dsimp only
      repeat (first | wp_step)
      exact ⟨rfl, hq⟩
    · obtain ⟨rfl, hq⟩ := hr
      exact wpAny_pure (wpAny_pure ⟨_, _, rfl, hq⟩)
  · rintro obj s₁ ⟨y, u, rfl, hq⟩
    exact ⟨typeIs_str _ _ _, PySem.F.args_object_init_2 _ _, object_init_meets PySem.F.called_str.init.lookup PySem.F.called_str.made (by decide) prog w A.in1 _ s₁ ⟨typeIs_str _ _ _, rfl, hq⟩⟩
end
end Lw
end
example : True := by k_with_none; w_top off; trivial
section
open PySem PySem.W PyProof.Rows
namespace Lw
example : True := by
  k_with_none
  k_with "omega" => ((fail_if_success (fail_if_success (omega (config := {})))); first | lia | omega (config := {}))
  k_with "callWith ref" => ((k_here; k_dflt (refine' callWith_K ?kAw90 ?kBw90 ?_; (case kAw90 => k_asm); (case kBw90 => k_is); k_whole)))
  k_with "eval Name" => ((k_here; (fail_if_success (with_reducible show wpAny _ _ (eval (Expr.Name _ _) (compEnvC _ _ _ _)) _ _ _)); k_dflt (first | (refine' nameX_L ?Fw91 ?vw91 ?_ ?aw91 ?bw91; (case bw91 => rfl); (case Fw91 => k_asm); (case aw91 => rfl); (case vw91 => rfl); k_whole) | (refine' nameX_C ?Nw92 ?cw92 ?mw92 ?dw92 ?_ ?aw92 ?bw92; (case bw92 => rfl); (case aw92 => rfl); (case Nw92 => k_asm); (case cw92 => rfl); (case mw92 => k_mem); (case dw92 => k_asm); k_whole) | (refine' nameX_K ?Fw93 ?Xw93 ?Tw93 ?ew93 ?_ ?aw93 ?bw93; (case bw93 => rfl); (case Fw93 => k_asm); (case Xw93 => k_asm); (case Tw93 => k_asm); (case aw93 => rfl); (case ew93 => k_is); k_whole) | (refine' nameX_B ?Fw94 ?Xw94 ?Tw94 ?ew94 ?vw94 ?nw94 ?_ ?aw94 ?bw94; (case bw94 => rfl); (case Fw94 => k_asm); (case Xw94 => k_asm); (case Tw94 => k_asm); (case aw94 => rfl); (case ew94 => k_is); (case vw94 => boot_fast); (case nw94 => decide); k_whole))))
  k_with "execs cons" => ((k_here; refine execs_G ?_; intro G9w hG9w))
  k_with "Go" => (((try dsimp only); first | (refine go_next_S (by with_reducible assumption) ?_; intro tSw) | refine go_ret (by with_reducible assumption) ?_ | refine go_cont (by with_reducible assumption) ?_ | refine go_brk (by with_reducible assumption) ?_))
  k_with "k_ne" => ((with_reducible first | assumption | exact Ne.symm (by assumption) | exact Nat.ne_of_lt (by assumption) | exact Ne.symm (Nat.ne_of_lt (by assumption)) | fail "k_ne"))
  k_with "ktr_room" => (first | exact room_a (by with_reducible assumption) rfl | exact room_b (by with_reducible assumption) rfl | exact room_c (by with_reducible assumption) rfl | fail "room")
  k_with "ktr_units" => (first | exact room_a (by with_reducible assumption) rfl | exact room_b (by with_reducible assumption) rfl | exact room_c (by with_reducible assumption) rfl | fail "room")
  k_with "call type:frozenset nil nil" => ((k_here; k_dflt (refine frozen_N (by k_asm) (by k_asm) ?_); intro d'w h'w led'w F'w N'w l1w; (try k_lt l1w)))
  k_with "call builtin:str.index" => (((with_reducible show wpAny _ _ (call (Value.builtin "str.index") [Value.str _ _, Value.str _ _, Value.int _ _]) _ _ _); (refine index3_or (by rfl) ?_ ?_); all_goals intros))
  k_with "getMethod ref" => ((k_here; k_dflt (refine getMethod_disj (News.get (by k_asm) (by k_mem)) ?_)))
  k_with "call builtin:frozenset.isdisjoint" => ((k_here; k_dflt (refine call_disj (by first | rfl | assumption) (by k_asm) (by k_asm) (by k_mem) ?_); intro h'w tk'w F'w N'w))
  k_with "k_room" => (ktr_room)
  k_with "noteFrame ref" => ((plain_pass; k_here; (with_reducible rename Heap.NewExc _ _ _ _ => nxX); k_dflt (refine' caught_own (T' := "ValueError") nxX ?Fw21 ?Nw21 ?Kw21 ?XBw21 ?TBw21 ?Dw21 ?T0w21 ?exw21 PyProof.Rows.Boot.«ValueError» ?hnw21 PySem.F.isExc_ValueError PySem.F.notTuple_ValueError ?hsw21 ?_; (case Fw21 => k_asm); (case Nw21 => k_asm); (case Kw21 => assumption); (case XBw21 => assumption); (case TBw21 => assumption); (case Dw21 => assumption); (case T0w21 => first | assumption | exact KtsTurn.refl); (case hsw21 => kts_sub); (case exw21 => k_is); (case hnw21 => decide); k_whole); intro h'w g'w oe9w ws9w hd9w hw9w T'w F'w N'w hn9w K'w X'w P'w D'w; (try k_lift K'w); (try k_sweep)))
  k_with "exec Raise some some" => ((k_here; k_dflt (refine' Raise_K (C := 92) (y := Str.ofString "TOMLDecodeError") ?Ow22 rfl ?_; (case Ow22 => (refine' own_of_in ?aw22 ?bw22 ?cw22 ?dw22; (case aw22 => k_asm); (case bw22 => k_asm); (case cw22 => k_is); (case dw22 => k_exc))))))
  k_with "joinParts" => (((with_reducible refine joinParts_nilE ?_); (with_reducible refine joinParts_nil (hsz := ?hszw23) ?_); (case hszw23 => (rw [sizeLine_eq]; simp only [Str.length_append]; have e1w := len_text "'" 1; have e5w := len_text "Expected " 9; have e6w : Str.empty.length = 0 := rfl; omega))))
  trivial
theorem turn_up {fs : List Addr} {g g' h : Heap} (T : KtsTurn fs g g') (u : g'.UpToSlots h) : g.UpToSlots h := fun b o e hn => by
  obtain ⟨sl, h1⟩ := T.up e
  obtain ⟨sl2, h2⟩ := u b _ h1 hn
  exact ⟨sl2, h2⟩
theorem turn_none {fs : List Addr} {g g' : Heap} (T : KtsTurn fs g g') {b : Addr} (e : g'.get? b = none) : g.get? b = none := by
  cases q : g.get? b with
  | none => rfl
  | some o =>
    obtain ⟨sl, h1⟩ := T.up q
    rw [e] at h1
    cases h1
theorem raised_back {base g g' h : Heap} {l : List Env} {e t : Addr} {cls : Value} {vs : List Value} {news : List (Addr × Obj)} (T : KtsTurn (l.filterMap (·.frame)) g g') (R : RaisedS base g' l e cls t vs news h) : RaisedS base g l e cls t vs news h := by
  obtain ⟨⟨B, hB, hBG, hl, r⟩, htup⟩ := R
  exact ⟨⟨B, hB, fun b o q nm => hBG b o (T.other b o q nm) nm, fun q hq => ⟨(hl q hq).1, turn_none T (hl q hq).2.1, (hl q hq).2.2⟩, r⟩, htup⟩
theorem leave_heldT {M : Model} {A : Around} {E : Value → Shared → Prop} {s' : Shared} {base g g₀ : Heap} {outer : List Env} {L a e t : Addr} {m : Str → Option Value} {name : Str} {scope : Scope} {cd : Value} {Q : Unit → Shared → Prop} {news : List (Addr × Obj)}
    {eo : Obj} {vs : Array Value} {cls v : Value} (K : Below A base outer g) (F : Fr g L s'.heap m) (N : News g L s'.heap ((e, eo) :: (t, tupOne v) :: news)) (hc : eo.cls = cls) (hd : eo.data = .fields vs) (h0 : vs[0]? = some (.ref t)) (h1 : vs[1]? = some .none)
    (dis : ∀ p ∈ news, p.1 ≠ e ∧ p.1 ≠ t) (T : KtsTurn (outer.filterMap (·.frame)) g₀ g)
    (hQ : ∀ h', RaisedS base g₀ outer e cls t [v] news h' → RaisedK base outer e cls t [v] news h' → g₀.UpToSlots h' → Q () { s' with heap := h' }) (hk : scope.kind = .function := by rfl) :
    wpAny M (A.deeper (envOf name scope L a cd)) (leaving (envOf name scope L a cd) (.ref e)) Q E s' :=
  leave_held K F N hc hd h0 h1 dis (fun h' R R' U => hQ h' (raised_back T R) R' (turn_up T U)) hk
theorem repr_plain {prog : Program} {w : World} {A : Around} {E : Value → Shared → Prop} {s : Shared} {x : Str} {t : Tok} {Q : Value → Shared → Prop} (hr : reprText x = Str.ofString "'" ++ x ++ Str.ofString "'") (hx : x.length ≤ 1000) (h : Q (.str (Str.ofString "'" ++ x ++ Str.ofString "'") s.toks) { s with toks := s.toks + 1 }) :
    wpAny (model prog w) A (pyReprObj (.str x t)) Q E s := by
  rw [← hr] at h
  refine pyReprObj_str h ?_
  rw [hr, sizeLine_eq]
  simp only [Str.length_append]
  have e1 := len_text "'" 1
  omega
theorem msg_short {y : Str} (hy : y.length ≤ 900) : (Str.empty ++ Str.ofString "Expected " ++ (Str.ofString "'" ++ y ++ Str.ofString "'")).length ≤ 1000 := by
  simp only [Str.length_append]
  have e1 := len_text "'" 1
  have e5 := len_text "Expected " 9
  have e6 : Str.empty.length = 0 := rfl
  omega
example : True := by
  k_with "pyReprObj str" => ((k_here; (refine repr_plain (by assumption) (by omega) ?_)))
  k_with "call ref" => (((with_reducible show wpAny _ _ (call (Value.ref 109) [_, _, _]) _ _ _); k_here; k_dflt (refine' ComesL.use (err_call _ _ _ _ _ _ _ _ _ _ ?uhtw25 ?uhxw25 ?uhyw25 ?uhbw25 ?uhiw25 ?uhrw25) ?uBw25 ?uFw25 ?uXw25 ?uNw25 ?uTw25 ?uC1w25 ?uC2w25 ?uhkw25 ?uhdw25 ?uhuw25 ?_; (case uhtw25 => assumption); (case uBw25 => k_asm); (case uFw25 => k_asm); (case uXw25 => k_asm); (case uTw25 => k_asm); (case uNw25 => exact err_rot (by k_asm)); (case uC1w25 => assumption); (case uC2w25 => assumption); (case uhkw25 => exact rfl); (case uhdw25 => ktr_room); (case uhuw25 => ktr_units); (case uhxw25 => omega); (case uhyw25 => exact msg_short (by assumption)); (case uhbw25 => omega); (case uhiw25 => omega); (case uhrw25 => exact err_ne (by assumption) (by assumption) (by assumption) (by assumption))); intro v'w nw'w h'w tk'w P'w F'w N'w))
  k_with "RaiseK" => ((refine' raise_go ?Fw26 ?Nw26 ?Pw26 ?hew26 ?hdw26 ?h2w26 ?_; (case Fw26 => k_asm); (case Pw26 => assumption); (case Nw26 => k_asm); (case hew26 => exact List.Mem.head _); (case hdw26 => assumption); (case h2w26 => assumption); k_whole; intro e'w t'w u'w tb'w h'w tk'w ev'w ht'w F'w N'w l1w))
  k_with "leaving ref" => ((k_here; (refine' leave_heldT ?vKw27 ?vFw27 ?vNw27 ?vcw27 ?vdw27 ?v0w27 ?v1w27 ?vdisw27 ?vTw27 ?_; (case vTw27 => assumption); (case vNw27 => k_asm); (case vFw27 => k_asm); (case vKw27 => assumption); (case vcw27 => exact rfl); (case vdw27 => exact rfl); (case v0w27 => exact rfl); (case v1w27 => exact rfl); (case vdisw27 => assumption); k_whole; intro h'w S'w R'w U'w; (try dsimp only at S'w R'w U'w ⊢))))
  k_with "noteFrame ref" => ((plain_pass; k_here; (rename RaisedS _ _ _ _ _ _ _ _ _ => rsX); (refine' caught_SOB ?wRw28 ?wFw28 ?wKw28 ?wUw28 ?wXBw28 ?wTBw28 ?wDw28 ?wT0w28 ?wexw28 ?wqw28 ?_; (case wRw28 => first | assumption); (case wFw28 => first | assumption); (case wKw28 => first | assumption); (case wUw28 => first | assumption); (case wXBw28 => first | assumption); (case wTBw28 => first | assumption); (case wDw28 => first | assumption); (case wT0w28 => first | assumption | exact KtsTurn.refl); (case wexw28 => first | k_is); (case wqw28 => first | kts_isx); k_whole); intro h'w g'w n₂w tk'w T'w F'w N₂w G'w N'w K'w X'w P'w D'w; (try k_lift K'w); (try k_sweep)))
  trivial
theorem str_got {prog : Program} {w : World} {A : Around} {E : Value → Shared → Prop} {s : Shared} {h₀ : Heap} {L e t C : Addr} {m mg : Str → Option Value} {K : Frag} {y x : Str} {tk : Tok} {news : List (Addr × Obj)} {Q : Value → Shared → Prop} (hu : A.in1.in1.units < cLine) (Fh : Fr h₀ L s.heap m) (X : K.In h₀)
    (N : News h₀ L s.heap news) (G : Got news e t (.ref C) [.str x tk]) (O : OwnCls y C [.type "ValueError", .type "Exception", .type "BaseException", .type "object"] "ValueError.__new__" mg h₀) (hs : findIn K (.ref C) "__str__" = some (some (.builtin "BaseException.__str__"))) (hq : Q (.str x tk) s) :
    wpAny (model prog w) A (call (.type "str") [.ref e]) Q E s := by
  obtain ⟨oe, ot, ws, nt, m1, m2, hc, hd, h0, _, htd⟩ := G
  exact str_own hu Fh X O hs (N _ m1).1 hc hd h0 (N _ m2).1 htd hq
example : True := by
  k_with "call type:str" => ((k_here; (with_reducible show wpAny _ _ (call (Value.type "str") [Value.ref _]) _ _ _); (rename Got _ _ _ _ _ => gtX); k_dflt (refine' str_got ?xuw29 ?xFw29 ?xXw29 ?xNw29 gtX ?xOw29 ?xsw29 ?_; (case xuw29 => ktr_units); (case xFw29 => k_asm); (case xXw29 => k_asm); (case xNw29 => assumption); (case xOw29 => (refine' own_of_in (x := Str.ofString "TOMLDecodeError") ?aw29 ?bw29 ?cw29 ?dw29; (case aw29 => k_asm); (case bw29 => k_asm); (case cw29 => k_is); (case dw29 => k_exc))); (case xsw29 => k_is))))
  trivial
theorem msg_eq (y : Str) : errText (Str.empty ++ Str.ofString "Expected " ++ (Str.ofString "'" ++ y ++ Str.ofString "'")) = Str.ofString "Expected '" ++ y ++ Str.ofString "' (at end of document)" := by
  have h1 : (Str.ofString "Expected ").cps.toList ++ (Str.ofString "'").cps.toList = (Str.ofString "Expected '").cps.toList := by decide
  have h2 : (Str.ofString "'").cps.toList ++ ((Str.ofString " (at ").cps.toList ++ ((Str.ofString "end of document").cps.toList ++ (Str.ofString ")").cps.toList)) = (Str.ofString "' (at end of document)").cps.toList := by decide
  have e : ∀ a b : Str, a.cps.toList = b.cps.toList → a = b := fun a b h => by
    cases a; cases b
    simp only [Str.mk.injEq]
    exact Array.toList_inj.mp h
  have ap : ∀ a b : Str, (a ++ b).cps.toList = a.cps.toList ++ b.cps.toList := fun a b => by
    show (a.cps ++ b.cps).toList = _
    simp
  apply e
  unfold errText
  simp only [ap]
  rw [← h1, ← h2]
  have h0 : Str.empty.cps.toList = [] := rfl
  rw [h0]
  simp only [List.nil_append, List.append_assoc]
theorem msg_beq {y : Str} (h : (errText (Str.empty ++ Str.ofString "Expected " ++ (Str.ofString "'" ++ y ++ Str.ofString "'")) == Str.ofString "Expected '" ++ y ++ Str.ofString "' (at end of document)") = false) : False := by
  rw [msg_eq] at h
  simp at h
noncomputable def seekR (x y : Str) (i : Int) : Int := if seekAt x y i = -1 then -1 else if i ≤ seekAt x y i then seekAt x y i else -2
noncomputable def SeekOut (rest : List (Addr × Obj)) (x y : Str) (i : Int) (v : Value) (nw : List (Addr × Obj)) : Prop := ∃ tb u, TabA tb ∧ v = .int (seekR x y i) u ∧ nw = tb ++ rest
theorem seek_n1 {h₀ h : Heap} {L : Addr} {tb rest : List (Addr × Obj)} {a b : Addr × Obj} (N : News h₀ L h (tb ++ a :: b :: rest)) : News h₀ L h (tb ++ rest) := KStt.news_of N fun p hp => by
  simp only [List.mem_cons, List.mem_append] at hp ⊢
  grind
theorem seek_n2 {h₀ h : Heap} {L : Addr} {l : List (Addr × Obj)} {a : Addr × Obj} (N : News h₀ L h (a :: l)) : News h₀ L h l := KStt.news_of N fun p hp => .tail _ hp
theorem seekR_none {x y : Str} {i : Int} (h : seekAt x y i = -1) : seekR x y i = -1 := by unfold seekR; rw [if_pos h]
theorem seekR_some {x y : Str} {i : Int} (h0 : 0 ≤ seekAt x y i) (h : i ≤ seekAt x y i) : seekR x y i = seekAt x y i := by unfold seekR; rw [if_neg (by omega), if_pos h]
theorem seekR_low {x y : Str} {i : Int} (h0 : 0 ≤ seekAt x y i) (h : ¬ i ≤ seekAt x y i) : seekR x y i = -2 := by unfold seekR; rw [if_neg (by omega), if_neg h]
namespace Sk
noncomputable def S0 (prog : Program) (w : World) (tb rest : List (Addr × Obj)) (x y : Str) (i : Int) (t t' tk : Tok) (p : Program) (loose : List Str) (mean : ExcName → Option Value) (mg : Str → Option Value) (mb : Str → Option Value) (dp : Nat) (un : Nat) (gd : Option (List Code)) (cn : Str) (cs : Scope) (a : Addr) (ccd : Value) (outer : List Env) (A₀ : Around) (base : Heap) (h₀ : Heap) (L : Addr) (m : Str → Option Value) (s : Shared) (Q : Value → Shared → Prop) (E : Value → Shared → Prop) : Prop :=
  TabA tb → x.length ≤ 900 → y.length ≤ 900 → 0 ≤ i → i ≤ 900 → reprText y = Str.ofString "'" ++ y ++ Str.ofString "'" → (∀ p ∈ rest, p.1 ≠ 104) → 
  ComesSv prog w 20 300 116 (tb ++ rest) [.str x t, .int i tk, .str y t'] (SeekOut rest x y i) p loose mean mg mb dp un gd cn cs a ccd outer A₀ base h₀ L m s Q E
noncomputable def P0 (x : Program × World × (List (Addr × Obj)) × (List (Addr × Obj)) × Str × Str × Int × Tok × Tok × Tok × Program × List Str × (ExcName → Option Value) × (Str → Option Value) × (Str → Option Value) × Nat × Nat × Option (List Code) × Str × Scope × Addr × Value × List Env × Around × Heap × Heap × Addr × (Str → Option Value) × Shared × (Value → Shared → Prop) × (Value → Shared → Prop)) : Prop := S0 x.1 x.2.1 x.2.2.1 x.2.2.2.1 x.2.2.2.2.1 x.2.2.2.2.2.1 x.2.2.2.2.2.2.1 x.2.2.2.2.2.2.2.1 x.2.2.2.2.2.2.2.2.1 x.2.2.2.2.2.2.2.2.2.1 x.2.2.2.2.2.2.2.2.2.2.1 x.2.2.2.2.2.2.2.2.2.2.2.1 x.2.2.2.2.2.2.2.2.2.2.2.2.1 x.2.2.2.2.2.2.2.2.2.2.2.2.2.1 x.2.2.2.2.2.2.2.2.2.2.2.2.2.2.1 x.2.2.2.2.2.2.2.2.2.2.2.2.2.2.2.1 x.2.2.2.2.2.2.2.2.2.2.2.2.2.2.2.2.1 x.2.2.2.2.2.2.2.2.2.2.2.2.2.2.2.2.2.1 x.2.2.2.2.2.2.2.2.2.2.2.2.2.2.2.2.2.2.1 x.2.2.2.2.2.2.2.2.2.2.2.2.2.2.2.2.2.2.2.1 x.2.2.2.2.2.2.2.2.2.2.2.2.2.2.2.2.2.2.2.2.1 x.2.2.2.2.2.2.2.2.2.2.2.2.2.2.2.2.2.2.2.2.2.1 x.2.2.2.2.2.2.2.2.2.2.2.2.2.2.2.2.2.2.2.2.2.2.1 x.2.2.2.2.2.2.2.2.2.2.2.2.2.2.2.2.2.2.2.2.2.2.2.1 x.2.2.2.2.2.2.2.2.2.2.2.2.2.2.2.2.2.2.2.2.2.2.2.2.1 x.2.2.2.2.2.2.2.2.2.2.2.2.2.2.2.2.2.2.2.2.2.2.2.2.2.1 x.2.2.2.2.2.2.2.2.2.2.2.2.2.2.2.2.2.2.2.2.2.2.2.2.2.2.1 x.2.2.2.2.2.2.2.2.2.2.2.2.2.2.2.2.2.2.2.2.2.2.2.2.2.2.2.1 x.2.2.2.2.2.2.2.2.2.2.2.2.2.2.2.2.2.2.2.2.2.2.2.2.2.2.2.2.1 x.2.2.2.2.2.2.2.2.2.2.2.2.2.2.2.2.2.2.2.2.2.2.2.2.2.2.2.2.2.1 x.2.2.2.2.2.2.2.2.2.2.2.2.2.2.2.2.2.2.2.2.2.2.2.2.2.2.2.2.2.2
noncomputable def k0 : Program × World × (List (Addr × Obj)) × (List (Addr × Obj)) × Str × Str × Int × Tok × Tok × Tok × Program × List Str × (ExcName → Option Value) × (Str → Option Value) × (Str → Option Value) × Nat × Nat × Option (List Code) × Str × Scope × Addr × Value × List Env × Around × Heap × Heap × Addr × (Str → Option Value) × Shared × (Value → Shared → Prop) × (Value → Shared → Prop) := henk (qv, aWorld 1, [], [], default, default, 0, default, default, default, qv, [], fun _ => none, fun _ => none, fun _ => none, 0, 0, none, default, default, 0, .none, [], hen_a, default, default, 0, fun _ => none, hen_s, fun _ _ => True, fun _ _ => True) P0
@[irreducible] noncomputable def prog : Program := k0.1
@[irreducible] noncomputable def w : World := k0.2.1
@[irreducible] noncomputable def tb : List (Addr × Obj) := k0.2.2.1
@[irreducible] noncomputable def rest : List (Addr × Obj) := k0.2.2.2.1
@[irreducible] noncomputable def x : Str := k0.2.2.2.2.1
@[irreducible] noncomputable def y : Str := k0.2.2.2.2.2.1
@[irreducible] noncomputable def i : Int := k0.2.2.2.2.2.2.1
@[irreducible] noncomputable def t : Tok := k0.2.2.2.2.2.2.2.1
@[irreducible] noncomputable def t' : Tok := k0.2.2.2.2.2.2.2.2.1
@[irreducible] noncomputable def tk : Tok := k0.2.2.2.2.2.2.2.2.2.1
@[irreducible] noncomputable def p : Program := k0.2.2.2.2.2.2.2.2.2.2.1
@[irreducible] noncomputable def loose : List Str := k0.2.2.2.2.2.2.2.2.2.2.2.1
@[irreducible] noncomputable def mean : ExcName → Option Value := k0.2.2.2.2.2.2.2.2.2.2.2.2.1
@[irreducible] noncomputable def mg : Str → Option Value := k0.2.2.2.2.2.2.2.2.2.2.2.2.2.1
@[irreducible] noncomputable def mb : Str → Option Value := k0.2.2.2.2.2.2.2.2.2.2.2.2.2.2.1
@[irreducible] noncomputable def dp : Nat := k0.2.2.2.2.2.2.2.2.2.2.2.2.2.2.2.1
@[irreducible] noncomputable def un : Nat := k0.2.2.2.2.2.2.2.2.2.2.2.2.2.2.2.2.1
@[irreducible] noncomputable def gd : Option (List Code) := k0.2.2.2.2.2.2.2.2.2.2.2.2.2.2.2.2.2.1
@[irreducible] noncomputable def cn : Str := k0.2.2.2.2.2.2.2.2.2.2.2.2.2.2.2.2.2.2.1
@[irreducible] noncomputable def cs : Scope := k0.2.2.2.2.2.2.2.2.2.2.2.2.2.2.2.2.2.2.2.1
@[irreducible] noncomputable def a : Addr := k0.2.2.2.2.2.2.2.2.2.2.2.2.2.2.2.2.2.2.2.2.1
@[irreducible] noncomputable def ccd : Value := k0.2.2.2.2.2.2.2.2.2.2.2.2.2.2.2.2.2.2.2.2.2.1
@[irreducible] noncomputable def outer : List Env := k0.2.2.2.2.2.2.2.2.2.2.2.2.2.2.2.2.2.2.2.2.2.2.1
@[irreducible] noncomputable def A₀ : Around := k0.2.2.2.2.2.2.2.2.2.2.2.2.2.2.2.2.2.2.2.2.2.2.2.1
@[irreducible] noncomputable def base : Heap := k0.2.2.2.2.2.2.2.2.2.2.2.2.2.2.2.2.2.2.2.2.2.2.2.2.1
@[irreducible] noncomputable def h₀ : Heap := k0.2.2.2.2.2.2.2.2.2.2.2.2.2.2.2.2.2.2.2.2.2.2.2.2.2.1
@[irreducible] noncomputable def L : Addr := k0.2.2.2.2.2.2.2.2.2.2.2.2.2.2.2.2.2.2.2.2.2.2.2.2.2.2.1
@[irreducible] noncomputable def m : Str → Option Value := k0.2.2.2.2.2.2.2.2.2.2.2.2.2.2.2.2.2.2.2.2.2.2.2.2.2.2.2.1
@[irreducible] noncomputable def s : Shared := k0.2.2.2.2.2.2.2.2.2.2.2.2.2.2.2.2.2.2.2.2.2.2.2.2.2.2.2.2.1
@[irreducible] noncomputable def Q : Value → Shared → Prop := k0.2.2.2.2.2.2.2.2.2.2.2.2.2.2.2.2.2.2.2.2.2.2.2.2.2.2.2.2.2.1
@[irreducible] noncomputable def E : Value → Shared → Prop := k0.2.2.2.2.2.2.2.2.2.2.2.2.2.2.2.2.2.2.2.2.2.2.2.2.2.2.2.2.2.2
theorem main : S0 prog w tb rest x y i t t' tk p loose mean mg mb dp un gd cn cs a ccd outer A₀ base h₀ L m s Q E := by
  unfold S0 ComesSv
  intro ht hx hy h0 hi hry hr B F X N T XB TB C1 C2 D hk hd hu hret
  refine wpAny_call ?_
  refine' code_defS ?k1 ?k2 ?k3 ?k4 ?k5 ?XB ?TB ?D ?T0 ?kA ?k6 ?k7 ?k8 ?k9 ?kB ?_ ?cK ?c2 ?c3 ?c4 ?c5; (case kA => exact rfl); (case k2 => k_asm); (case k1 => k_asm); (case XB => assumption); (case TB => assumption); (case D => assumption); (case T0 => exact KtsTurn.refl); (case k3 => k_asm); (case k4 => k_asm); (case k5 => k_asm); (case k6 => k_is); (case k7 => k_is); (case k8 => k_room); (case k9 => first | exact binds_K (by k_in) rfl (by k_is) rfl rfl rfl | exact BindsTo.of_eq rfl | fail "kts_go: no rule for these arguments"); (case kB => exact locs rfl); (case cK => assumption); (case c2 => exact rfl); (case c3 => exact rfl); (case c4 => exact rfl); (case c5 => decide); k_whole; intro g' L' h' FG' F' N' B' X' T' D'; (try dsimp only); (try k_lift B'); (try k_fold)
  k_steps
  · (with_reducible rename TabA _ => e1; with_reducible rename KtsTurn _ _ _ => e2; with_reducible rename Fr _ _ _ _ => e3; with_reducible rename News _ _ _ _ => e4; with_reducible rename Below _ _ _ _ => e5; with_reducible rename KtsDicts _ _ => e6; with_reducible rename Top _ _ _ _ _ _ => e7; with_reducible rename Frag.In _ _ => e8; with_reducible rename seekAt _ _ _ = -1 => e9)
    exact hret _ _ _ _ _ ⟨_, _, e1, congrArg (Value.int · _) (seekR_none e9).symm, rfl⟩ e2 e3 (seek_n1 e4) e5 e8 e7 e6
  · exact (msg_beq (by assumption)).elim
  · exact hret _ _ _ _ _ ⟨_, _, ht, congrArg (Value.int · _) (seekR_some (by assumption) (by assumption)).symm, rfl⟩ KtsTurn.refl (by assumption) (seek_n2 (by assumption)) B X T D
  · exact hret _ _ _ _ _ ⟨_, _, ht, congrArg (Value.int · _) (seekR_low (by assumption) (by assumption)).symm, rfl⟩ KtsTurn.refl (by assumption) (seek_n2 (by assumption)) B X T D
end Sk
theorem seek_call (prog : Program) (w : World) (tb rest : List (Addr × Obj)) (x y : Str) (i : Int) (t t' tk : Tok) (ht : TabA tb) (hx : x.length ≤ 900) (hy : y.length ≤ 900) (h0 : 0 ≤ i) (hi : i ≤ 900) (hry : reprText y = Str.ofString "'" ++ y ++ Str.ofString "'") (hr : ∀ p ∈ rest, p.1 ≠ 104) :
    ComesS prog w 20 300 116 (tb ++ rest) [.str x t, .int i tk, .str y t'] (SeekOut rest x y i) := fun p loose mean mg mb dp un gd cn cs a ccd outer A₀ base h₀ L m s Q E => henk_all (P := Sk.P0) (by with_unfolding_all exact Sk.main) (prog, w, tb, rest, x, y, i, t, t', tk, p, loose, mean, mg, mb, dp, un, gd, cn, cs, a, ccd, outer, A₀, base, h₀, L, m, s, Q, E) ht hx hy h0 hi hry hr
end Lw
end
example : True := by k_with_none; w_top off; trivial
section
open PySem PySem.W PyProof.Rows
namespace Lw
example : True := by
  k_with_none
  k_with "omega" => ((fail_if_success (fail_if_success (omega (config := {})))); first | lia | omega (config := {}))
  trivial
open PySem.StrLaws PySem.Builtin.Str
theorem seek_spec (x y : Str) (i : Int) (h0 : 0 ≤ i) : (seekAt x y i = -1 ∧ ∀ k : Nat, i ≤ k → ¬ At x y x.length k) ∨ ∃ k : Nat, seekAt x y i = k ∧ i ≤ k ∧ At x y x.length k ∧ ∀ j : Nat, i ≤ j → j < k → ¬ At x y x.length j := by
  have ei : fromIndex x.length i = i.toNat := by
    unfold fromIndex
    rw [if_neg (by omega)]
    omega
  unfold seekAt
  rw [ei]
  generalize hn : i.toNat = n
  have hi : i = (n : Int) := by omega
  subst hi
  have mem : ∀ k : Nat, n ≤ k → At x y x.length k → k ∈ List.range' n (x.length + 1 - n) := fun k h1 h2 => by
    have := h2.1
    rw [List.mem_range']
    exact ⟨k - n, by omega, by omega⟩
  have e := occ_eq x y n x.length 1
  rcases occ_first x y x.length 1 (Nat.le_refl _) (List.range' n (x.length + 1 - n)) n (fun k hk => by rw [List.mem_range'] at hk; obtain ⟨j, _, rfl⟩ := hk; omega) with ⟨z0, zn⟩ | ⟨pre, a, post, z1, z0, za, zn⟩
  · rw [z0] at e
    rw [e]
    exact .inl ⟨rfl, fun k h1 h2 => zn k (mem k (by omega) h2) h2⟩
  · have e2 : occurrences x y n x.length 1 = [a] ∨ ∃ r, occurrences x y n x.length 1 = a :: r := by
      rw [e]
      generalize (forIn (List.range' n (x.length + 1 - n)) (#[], n) (occBody x y x.length 1)).run.fst = arr at z0
      have z2 : arr.toList[0]? = some a := by simpa using z0
      generalize arr.toList = l at z2
      cases l with
      | nil => simp at z2
      | cons b r => simp at z2; subst z2; exact .inr ⟨r, rfl⟩
    have e3 : (match occurrences x y n x.length 1 with | k :: _ => (k : Int) | [] => -1) = (a : Int) := by
      rcases e2 with h | ⟨r, h⟩ <;> rw [h]
    refine .inr ⟨a, e3, ?_, za, fun j h1 h2 h3 => ?_⟩
    · have : a ∈ List.range' n (x.length + 1 - n) := by rw [z1]; simp
      rw [List.mem_range'] at this
      obtain ⟨j, _, rfl⟩ := this
      omega
    · refine zn j ?_ h3
      have hj := mem j (by omega) h3
      rw [z1] at hj
      rcases List.mem_append.mp hj with q | q
      · exact q
      · exfalso
        have hs : (pre ++ a :: post).Pairwise (· < ·) := by rw [← z1]; exact List.pairwise_lt_range'
        rw [List.pairwise_append] at hs
        have h5 := List.pairwise_cons.mp hs.2.1
        rcases List.mem_cons.mp q with rfl | q
        · omega
        · have := h5.1 j q
          omega
theorem seek_ge {x y : Str} {i : Int} (h0 : 0 ≤ i) : seekR x y i = seekAt x y i := by
  unfold seekR
  rcases seek_spec x y i h0 with ⟨e, _⟩ | ⟨k, e, h, _⟩
  · rw [if_pos e, e]
  · rw [e, if_neg (by omega), if_pos h]
noncomputable def splitL : List Nat → List (List Nat)
  | [] => [[]]
  | c :: r => if c = 42 then [] :: splitL r else match splitL r with | [] => [[c]] | h :: t => (c :: h) :: t
theorem splitL_ne : ∀ l, splitL l ≠ []
  | [] => by simp [splitL]
  | c :: r => by
    unfold splitL
    split
    · simp
    · split <;> simp
theorem splitL_app : ∀ (a b : List Nat), 42 ∉ a → splitL (a ++ 42 :: b) = a :: splitL b
  | [], b, _ => by simp [splitL]
  | c :: r, b, h => by
    have hc : c ≠ 42 := fun e => h (e ▸ .head _)
    have ih := splitL_app r b fun q => h (.tail _ q)
    rw [List.cons_append, splitL, if_neg hc, ih]
theorem splitL_one : ∀ (a : List Nat), 42 ∉ a → splitL a = [a]
  | [], _ => rfl
  | c :: r, h => by
    have hc : c ≠ 42 := fun e => h (e ▸ .head _)
    have ih := splitL_one r fun q => h (.tail _ q)
    rw [splitL, if_neg hc, ih]
noncomputable def ofL (l : List Nat) : Str := ⟨l.toArray⟩
noncomputable def rawF (x : Str) : List Str := (splitL x.cps.toList).map ofL
theorem star_at (x : Str) (k : Nat) : At x (Str.ofString "*") x.length k ↔ x.cps.toList[k]? = some 42 := by
  have e : Str.ofString "*" = ⟨#[42]⟩ := by decide +kernel
  rw [e]
  exact subAt_one x 42 k
theorem seek_star (x : Str) (b : Int) (h0 : 0 ≤ b) (h1 : b ≤ x.length) : (seekR x (Str.ofString "*") b = -1 ∧ splitL (x.cps.toList.drop b.toNat) = [x.cps.toList.drop b.toNat]) ∨
    ∃ s : Nat, seekR x (Str.ofString "*") b = s ∧ b ≤ s ∧ s < x.length ∧ (splitL (x.cps.toList.drop b.toNat)).map ofL = Txt.slice x (some b) (some s) :: (splitL (x.cps.toList.drop (s + 1))).map ofL := by
  rw [seek_ge h0]
  obtain ⟨n, rfl⟩ := Int.eq_ofNat_of_zero_le h0
  rw [Int.toNat_natCast]
  have hl : x.length = x.cps.toList.length := by simp [Str.length]
  rcases seek_spec x (Str.ofString "*") n h0 with ⟨e, hn⟩ | ⟨k, e, h, ha, hn⟩
  · refine .inl ⟨e, splitL_one _ fun hm => ?_⟩
    obtain ⟨j, hj⟩ := List.mem_iff_getElem?.mp hm
    rw [List.getElem?_drop] at hj
    exact hn (n + j) (by omega) ((star_at x _).mpr hj)
  · have hk := (star_at x k).mp ha
    have hlt := (List.getElem?_eq_some_iff.mp hk).1
    refine .inr ⟨k, e, h, by omega, ?_⟩
    rw [slice_eq h0 h, Int.toNat_natCast, show ((k : Int) - (n : Int)).toNat = k - n from Int.toNat_sub k n]
    have hsp : x.cps.toList.drop n = (x.cps.toList.drop n).take (k - n) ++ 42 :: x.cps.toList.drop (k + 1) := by
      have h2 : x.cps.toList.drop k = 42 :: x.cps.toList.drop (k + 1) := by
        rw [List.drop_eq_getElem_cons hlt]
        congr 1
        rw [List.getElem?_eq_getElem hlt] at hk
        exact Option.some.inj hk
      rw [← h2]
      have h3 : x.cps.toList.drop k = (x.cps.toList.drop n).drop (k - n) := by
        rw [List.drop_drop]
        congr 1
        omega
      rw [h3, List.take_append_drop]
    rw [hsp, splitL_app, List.map_cons]
    · congr 1
      rw [← hsp]
      rfl
    · intro hm
      obtain ⟨j, hj⟩ := List.mem_iff_getElem?.mp hm
      have hjl := (List.getElem?_eq_some_iff.mp hj).1
      simp only [List.length_take, List.length_drop] at hjl
      rw [List.getElem?_take_of_lt (by omega), List.getElem?_drop] at hj
      exact hn (n + j) (by omega) (by omega) ((star_at x _).mpr hj)
end Lw
end
example : True := by k_with_none; w_top off; trivial
section
open PySem PySem.W PyProof.Rows
namespace Lw
example : True := by
  k_with_none
  k_with "omega" => ((fail_if_success (fail_if_success (omega (config := {})))); first | lia | omega (config := {}))
  k_with "callWith ref" => ((k_here; k_dflt (refine' callWith_K ?kAw90 ?kBw90 ?_; (case kAw90 => k_asm); (case kBw90 => k_is); k_whole)))
  k_with "eval Name" => ((k_here; (fail_if_success (with_reducible show wpAny _ _ (eval (Expr.Name _ _) (compEnvC _ _ _ _)) _ _ _)); k_dflt (first | (refine' nameX_L ?Fw91 ?vw91 ?_ ?aw91 ?bw91; (case bw91 => rfl); (case Fw91 => k_asm); (case aw91 => rfl); (case vw91 => rfl); k_whole) | (refine' nameX_C ?Nw92 ?cw92 ?mw92 ?dw92 ?_ ?aw92 ?bw92; (case bw92 => rfl); (case aw92 => rfl); (case Nw92 => k_asm); (case cw92 => rfl); (case mw92 => k_mem); (case dw92 => k_asm); k_whole) | (refine' nameX_K ?Fw93 ?Xw93 ?Tw93 ?ew93 ?_ ?aw93 ?bw93; (case bw93 => rfl); (case Fw93 => k_asm); (case Xw93 => k_asm); (case Tw93 => k_asm); (case aw93 => rfl); (case ew93 => k_is); k_whole) | (refine' nameX_B ?Fw94 ?Xw94 ?Tw94 ?ew94 ?vw94 ?nw94 ?_ ?aw94 ?bw94; (case bw94 => rfl); (case Fw94 => k_asm); (case Xw94 => k_asm); (case Tw94 => k_asm); (case aw94 => rfl); (case ew94 => k_is); (case vw94 => boot_fast); (case nw94 => decide); k_whole))))
  k_with "execs cons" => ((k_here; refine execs_G ?_; intro G9w hG9w))
  k_with "Go" => (((try dsimp only); first | (refine go_next_S (by with_reducible assumption) ?_; intro tSw) | refine go_ret (by with_reducible assumption) ?_ | refine go_cont (by with_reducible assumption) ?_ | refine go_brk (by with_reducible assumption) ?_))
  k_with "k_ne" => ((with_reducible first | assumption | exact Ne.symm (by assumption) | exact Nat.ne_of_lt (by assumption) | exact Ne.symm (Nat.ne_of_lt (by assumption)) | fail "k_ne"))
  k_with "ktr_room" => (first | exact room_a (by with_reducible assumption) rfl | exact room_b (by with_reducible assumption) rfl | exact room_c (by with_reducible assumption) rfl | fail "room")
  k_with "ktr_units" => (first | exact room_a (by with_reducible assumption) rfl | exact room_b (by with_reducible assumption) rfl | exact room_c (by with_reducible assumption) rfl | fail "room")
  trivial
open PySem.W.KStt (codes txt)
noncomputable def isSp (n : Int) : Bool := n == 46 || n == 40 || n == 41 || n == 63
noncomputable def plainRun : List Int → List Int → Bool → Option (List Int × Bool)
  | [], s, e => some (s, e)
  | c :: r, s, e => if c = 92 ∧ e = false then plainRun r s true else if e = isSp c then plainRun r (s ++ [c]) false else none
theorem plainRun_append : ∀ (a b s : List Int) (e : Bool), plainRun (a ++ b) s e = (plainRun a s e).bind fun q => plainRun b q.1 q.2
  | [], b, s, e => rfl
  | c :: r, b, s, e => by
    simp only [List.cons_append, plainRun]
    split
    · exact plainRun_append r b s true
    · split
      · exact plainRun_append r b _ false
      · rfl
noncomputable def plainF (x : Str) : Option Str := match plainRun (codes x) [] false with
  | some (s, false) => some (txt s)
  | _ => none
theorem sp_occ (n : Nat) : (!(Builtin.Str.occurrences (Str.ofString ".()?") ⟨#[n]⟩ 0 (Str.ofString ".()?").length 1).isEmpty) = isSp n := by
  rw [StrLaws.found_one]
  have e : (Str.ofString ".()?").cps.toList = [46, 40, 41, 63] := by decide +kernel
  rw [e]
  unfold isSp
  simp only [List.mem_cons, List.not_mem_nil, or_false, Bool.decide_or]
  have h : ∀ k : Nat, decide (n = k) = ((n : Int) == (k : Int)) := fun k => by
    rw [Bool.eq_iff_iff]; simp only [decide_eq_true_eq, beq_iff_eq]; omega
  simp only [h, Bool.or_assoc]
  rfl
theorem bs_eq (n : Nat) (b : Bool) (h : (({ cps := #[n] } : Str) == Str.ofString "\\") = b) : (decide ((n : Int) = 92)) = b := by
  have e : Str.ofString "\\" = ⟨#[92]⟩ := by decide +kernel
  rw [e] at h
  rw [← h, Bool.eq_iff_iff]
  simp only [decide_eq_true_eq, beq_iff_eq, Str.mk.injEq]
  constructor
  · intro h; have : n = 92 := by omega
    subst this; rfl
  · intro h
    have := congrArg Array.toList h
    simp at this
    omega
noncomputable def PlainP (pre : List Int) (k : Str) (m : Bool) : Prop := k.length ≤ pre.length ∧ ∃ s, plainRun pre [] false = some (s, m) ∧ txt s = k
theorem PlainP.nil : PlainP [] (Str.ofString "") false := ⟨by decide +kernel, [], rfl, by decide +kernel⟩
theorem PlainP.esc {pre : List Int} {k : Str} {m : Bool} {n : Nat} (h : PlainP pre k m) (h1 : (({ cps := #[n] } : Str) == Str.ofString "\\") = true) (h2 : m = false) : PlainP (pre ++ [(n : Int)]) k true := by
  obtain ⟨hl, s, e, hk⟩ := h
  have h1 := of_decide_eq_true (bs_eq n true h1)
  refine ⟨by simp; omega, s, ?_, hk⟩
  rw [plainRun_append, e]
  simp [plainRun, h1, h2]
theorem PlainP.put {pre : List Int} {k : Str} {m : Bool} {n : Nat} (h : PlainP pre k m) (h1 : ¬ ((({ cps := #[n] } : Str) == Str.ofString "\\") = true ∧ m = false))
    (h2 : (m != !(Builtin.Str.occurrences (Str.ofString ".()?") ⟨#[n]⟩ 0 (Str.ofString ".()?").length 1).isEmpty) = false) : PlainP (pre ++ [(n : Int)]) (k ++ ⟨#[n]⟩) false := by
  obtain ⟨hl, s, e, hk⟩ := h
  rw [sp_occ] at h2
  refine ⟨?_, s ++ [(n : Int)], ?_, by rw [KStt.txt_snoc, hk]⟩
  · have : (k ++ (⟨#[n]⟩ : Str)).length = k.length + 1 := by
      show (k.cps ++ #[n]).size = _
      simp [Str.length]
    rw [this]; simp; omega
  · have h1' : ¬ ((n : Int) = 92 ∧ m = false) := fun q => h1 ⟨by
        have := bs_eq n _ rfl
        rw [← this]; exact decide_eq_true q.1, q.2⟩
    have h2' : m = isSp n := by
      cases m <;> cases q : isSp (n : Int) <;> simp_all
    rw [plainRun_append, e]
    simp only [Option.bind_some, plainRun, if_neg h1', if_pos h2']
theorem PlainP.bad {pre post : List Int} {x k : Str} {m : Bool} {n : Nat} (h : PlainP pre k m) (hx : codes x = pre ++ (n : Int) :: post) (h1 : ¬ ((({ cps := #[n] } : Str) == Str.ofString "\\") = true ∧ m = false))
    (h2 : (m != !(Builtin.Str.occurrences (Str.ofString ".()?") ⟨#[n]⟩ 0 (Str.ofString ".()?").length 1).isEmpty) = true) : plainF x = none := by
  obtain ⟨hl, s, e, hk⟩ := h
  rw [sp_occ] at h2
  have h1' : ¬ ((n : Int) = 92 ∧ m = false) := fun q => h1 ⟨by
        have := bs_eq n _ rfl
        rw [← this]; exact decide_eq_true q.1, q.2⟩
  have h2' : ¬ m = isSp n := by
      cases m <;> cases q : isSp (n : Int) <;> simp_all
  unfold plainF
  rw [hx, plainRun_append, e]
  simp only [Option.bind_some, plainRun, if_neg h1', if_neg h2']
theorem PlainP.fin {x k : Str} {m : Bool} (h : PlainP (codes x) k m) : plainF x = if m then none else some k := by
  obtain ⟨hl, s, e, hk⟩ := h
  unfold plainF
  rw [e]
  cases m <;> simp [hk]
theorem PlainP.both {pre : List Int} {k : Str} {m : Bool} (h : PlainP pre k m) : k.length ≤ pre.length ∧ PlainP pre k m := ⟨h.1, h⟩
namespace Pl
noncomputable def S0 (prog : Program) (w : World) (news : List (Addr × Obj)) (x : Str) (t : Tok) (p : Program) (loose : List Str) (mean : ExcName → Option Value) (mg : Str → Option Value) (mb : Str → Option Value) (dp : Nat) (un : Nat) (gd : Option (List Code)) (cn : Str) (cs : Scope) (a : Addr) (ccd : Value) (cl : List (Str × Addr)) (outer : List Env) (A₀ : Around) (base : Heap) (h₀ : Heap) (L : Addr) (m : Str → Option Value) (s : Shared) (Q : Value → Shared → Prop) (E : Value → Shared → Prop) : Prop :=
  x.length ≤ 1000 → 
  Comesv prog w 3 40 123 news [.str x t] (fun v nw => nw = [] ∧ match plainF x with | none => v = .none | some y => ∃ t', v = .str y t') p loose mean mg mb dp un gd cn cs a ccd cl outer A₀ base h₀ L m s Q E
noncomputable def P0 (x : Program × World × (List (Addr × Obj)) × Str × Tok × Program × List Str × (ExcName → Option Value) × (Str → Option Value) × (Str → Option Value) × Nat × Nat × Option (List Code) × Str × Scope × Addr × Value × (List (Str × Addr)) × List Env × Around × Heap × Heap × Addr × (Str → Option Value) × Shared × (Value → Shared → Prop) × (Value → Shared → Prop)) : Prop := S0 x.1 x.2.1 x.2.2.1 x.2.2.2.1 x.2.2.2.2.1 x.2.2.2.2.2.1 x.2.2.2.2.2.2.1 x.2.2.2.2.2.2.2.1 x.2.2.2.2.2.2.2.2.1 x.2.2.2.2.2.2.2.2.2.1 x.2.2.2.2.2.2.2.2.2.2.1 x.2.2.2.2.2.2.2.2.2.2.2.1 x.2.2.2.2.2.2.2.2.2.2.2.2.1 x.2.2.2.2.2.2.2.2.2.2.2.2.2.1 x.2.2.2.2.2.2.2.2.2.2.2.2.2.2.1 x.2.2.2.2.2.2.2.2.2.2.2.2.2.2.2.1 x.2.2.2.2.2.2.2.2.2.2.2.2.2.2.2.2.1 x.2.2.2.2.2.2.2.2.2.2.2.2.2.2.2.2.2.1 x.2.2.2.2.2.2.2.2.2.2.2.2.2.2.2.2.2.2.1 x.2.2.2.2.2.2.2.2.2.2.2.2.2.2.2.2.2.2.2.1 x.2.2.2.2.2.2.2.2.2.2.2.2.2.2.2.2.2.2.2.2.1 x.2.2.2.2.2.2.2.2.2.2.2.2.2.2.2.2.2.2.2.2.2.1 x.2.2.2.2.2.2.2.2.2.2.2.2.2.2.2.2.2.2.2.2.2.2.1 x.2.2.2.2.2.2.2.2.2.2.2.2.2.2.2.2.2.2.2.2.2.2.2.1 x.2.2.2.2.2.2.2.2.2.2.2.2.2.2.2.2.2.2.2.2.2.2.2.2.1 x.2.2.2.2.2.2.2.2.2.2.2.2.2.2.2.2.2.2.2.2.2.2.2.2.2.1 x.2.2.2.2.2.2.2.2.2.2.2.2.2.2.2.2.2.2.2.2.2.2.2.2.2.2
noncomputable def k0 : Program × World × (List (Addr × Obj)) × Str × Tok × Program × List Str × (ExcName → Option Value) × (Str → Option Value) × (Str → Option Value) × Nat × Nat × Option (List Code) × Str × Scope × Addr × Value × (List (Str × Addr)) × List Env × Around × Heap × Heap × Addr × (Str → Option Value) × Shared × (Value → Shared → Prop) × (Value → Shared → Prop) := henk (qv, aWorld 1, [], default, default, qv, [], fun _ => none, fun _ => none, fun _ => none, 0, 0, none, default, default, 0, .none, [], [], hen_a, default, default, 0, fun _ => none, hen_s, fun _ _ => True, fun _ _ => True) P0
@[irreducible] noncomputable def prog : Program := k0.1
@[irreducible] noncomputable def w : World := k0.2.1
@[irreducible] noncomputable def news : List (Addr × Obj) := k0.2.2.1
@[irreducible] noncomputable def x : Str := k0.2.2.2.1
@[irreducible] noncomputable def t : Tok := k0.2.2.2.2.1
@[irreducible] noncomputable def p : Program := k0.2.2.2.2.2.1
@[irreducible] noncomputable def loose : List Str := k0.2.2.2.2.2.2.1
@[irreducible] noncomputable def mean : ExcName → Option Value := k0.2.2.2.2.2.2.2.1
@[irreducible] noncomputable def mg : Str → Option Value := k0.2.2.2.2.2.2.2.2.1
@[irreducible] noncomputable def mb : Str → Option Value := k0.2.2.2.2.2.2.2.2.2.1
@[irreducible] noncomputable def dp : Nat := k0.2.2.2.2.2.2.2.2.2.2.1
@[irreducible] noncomputable def un : Nat := k0.2.2.2.2.2.2.2.2.2.2.2.1
@[irreducible] noncomputable def gd : Option (List Code) := k0.2.2.2.2.2.2.2.2.2.2.2.2.1
@[irreducible] noncomputable def cn : Str := k0.2.2.2.2.2.2.2.2.2.2.2.2.2.1
@[irreducible] noncomputable def cs : Scope := k0.2.2.2.2.2.2.2.2.2.2.2.2.2.2.1
@[irreducible] noncomputable def a : Addr := k0.2.2.2.2.2.2.2.2.2.2.2.2.2.2.2.1
@[irreducible] noncomputable def ccd : Value := k0.2.2.2.2.2.2.2.2.2.2.2.2.2.2.2.2.1
@[irreducible] noncomputable def cl : List (Str × Addr) := k0.2.2.2.2.2.2.2.2.2.2.2.2.2.2.2.2.2.1
@[irreducible] noncomputable def outer : List Env := k0.2.2.2.2.2.2.2.2.2.2.2.2.2.2.2.2.2.2.1
@[irreducible] noncomputable def A₀ : Around := k0.2.2.2.2.2.2.2.2.2.2.2.2.2.2.2.2.2.2.2.1
@[irreducible] noncomputable def base : Heap := k0.2.2.2.2.2.2.2.2.2.2.2.2.2.2.2.2.2.2.2.2.1
@[irreducible] noncomputable def h₀ : Heap := k0.2.2.2.2.2.2.2.2.2.2.2.2.2.2.2.2.2.2.2.2.2.1
@[irreducible] noncomputable def L : Addr := k0.2.2.2.2.2.2.2.2.2.2.2.2.2.2.2.2.2.2.2.2.2.2.1
@[irreducible] noncomputable def m : Str → Option Value := k0.2.2.2.2.2.2.2.2.2.2.2.2.2.2.2.2.2.2.2.2.2.2.2.1
@[irreducible] noncomputable def s : Shared := k0.2.2.2.2.2.2.2.2.2.2.2.2.2.2.2.2.2.2.2.2.2.2.2.2.1
@[irreducible] noncomputable def Q : Value → Shared → Prop := k0.2.2.2.2.2.2.2.2.2.2.2.2.2.2.2.2.2.2.2.2.2.2.2.2.2.1
@[irreducible] noncomputable def E : Value → Shared → Prop := k0.2.2.2.2.2.2.2.2.2.2.2.2.2.2.2.2.2.2.2.2.2.2.2.2.2.2
theorem main : S0 prog w news x t p loose mean mg mb dp un gd cn cs a ccd cl outer A₀ base h₀ L m s Q E := by
  unfold S0 Comesv
  intro hx B F X N T hk hd hu hret
  refine wpAny_call ?_
  k_dflt cell_enter
  (k_with "pyIter str" => k_state (fun pre k m => k.length ≤ pre.length ∧ PlainP pre k m) "signs" "escaped")
  (k_with "state" => first | exact PlainP.nil.both | exact (PlainP.esc (by first | assumption | exact And.right (by assumption)) (by assumption) (by assumption)).both | exact (PlainP.put (by first | assumption | exact And.right (by assumption)) (by simp_all) (by assumption)).both)
  k_steps
  · exact hret _ [] _ _ ⟨rfl, by rw [PlainP.bad (by assumption) kEq (by simp_all) (by assumption)]⟩ (by assumption) (KStt.news_of (by assumption) (by simp_all))
  · exact hret _ [] _ _ ⟨rfl, by rw [PlainP.bad (by assumption) kEq (by simp_all) (by assumption)]⟩ (by assumption) (KStt.news_of (by assumption) (by simp_all))
  · exact hret _ [] _ _ ⟨rfl, by rw [PlainP.fin (by assumption)]; simp_all⟩ (by assumption) (by assumption)
  · exact hret _ [] _ _ ⟨rfl, by rw [PlainP.fin (by assumption)]; simp_all⟩ (by assumption) (by assumption)
end Pl
theorem plain_call (prog : Program) (w : World) (news : List (Addr × Obj)) (x : Str) (t : Tok) (hx : x.length ≤ 1000) :
    Comes prog w 3 40 123 news [.str x t] (fun v nw => nw = [] ∧ match plainF x with | none => v = .none | some y => ∃ t', v = .str y t') := fun p loose mean mg mb dp un gd cn cs a ccd cl outer A₀ base h₀ L m s Q E => henk_all (P := Pl.P0) (by with_unfolding_all exact Pl.main) (prog, w, news, x, t, p, loose, mean, mg, mb, dp, un, gd, cn, cs, a, ccd, cl, outer, A₀, base, h₀, L, m, s, Q, E) hx
end Lw
end
example : True := by k_with_none; w_top off; trivial
section
open PySem PySem.W PyProof.Rows
namespace Lw
example : True := by
  k_with_none
  k_with "omega" => ((fail_if_success (fail_if_success (omega (config := {})))); first | lia | omega (config := {}))
  trivial
noncomputable def frontF (last j : Int) : Str := if decide (0 < j ∧ j < last) = true then Str.ofString "?" else Str.ofString ""
noncomputable def closeF (j : Int) : Str := if decide (j ≠ 0) = true then Str.ofString ")" else Str.ofString ""
noncomputable def tailQ (last j : Int) : Str := if decide (j = last - 1) = true then Str.ofString "." else Str.ofString "(?>."
noncomputable def behindF (last j : Int) : Str := if j < last then closeF j ++ tailQ last j else Str.ofString ""
theorem frontF_le {last j : Int} : (frontF last j).length ≤ 1 := by unfold frontF; split <;> decide
theorem closeF_le {j : Int} : (closeF j).length ≤ 1 := by unfold closeF; split <;> decide
theorem tailQ_le {last j : Int} : (tailQ last j).length ≤ 4 := by unfold tailQ; split <;> decide
noncomputable def pieceAt (last j : Int) (part : Str) : Option Str :=
  if (part.length : Int) < (frontF last j).length + (behindF last j).length then none
  else if Txt.startswith part (frontF last j) = false then none
  else if Txt.endswith part (behindF last j) = false then none
  else plainF (Txt.slice part (some (frontF last j).length) (some (part.length - (behindF last j).length)))
noncomputable def piecesTo (last : Int) (raw : List Str) : Nat → Option (List Str)
  | 0 => some []
  | n + 1 => (piecesTo last raw n).bind fun out => (raw[n]?).bind fun p => (pieceAt last n p).map fun q => out ++ [q]
noncomputable def piecesF (x : Str) : Option (List Str) := if (rawF x).length < 2 then none else piecesTo ((rawF x).length - 1) (rawF x) (rawF x).length
theorem piecesTo_none {last : Int} {raw : List Str} {n : Nat} (h : piecesTo last raw n = none) : ∀ k, n ≤ k → piecesTo last raw k = none := by
  intro k hk
  induction k with
  | zero =>
    have : n = 0 := by omega
    subst this
    exact h
  | succ k ih =>
    by_cases c : n = k + 1
    · subst c; exact h
    · rw [piecesTo, ih (by omega)]
      rfl
theorem piecesTo_bad {last : Int} {raw out : List Str} {n : Nat} {p : Str} (h : piecesTo last raw n = some out) (hp : raw[n]? = some p) (hb : pieceAt last n p = none) (hn : n < raw.length) : piecesTo last raw raw.length = none := by
  refine piecesTo_none (n := n + 1) ?_ _ hn
  rw [piecesTo, h, Option.bind_some, hp, Option.bind_some, hb]
  rfl
theorem piecesTo_step {last : Int} {raw out : List Str} {n : Nat} {p q : Str} (h : piecesTo last raw n = some out) (hp : raw[n]? = some p) (hb : pieceAt last n p = some q) : piecesTo last raw (n + 1) = some (out ++ [q]) := by
  rw [piecesTo, h, Option.bind_some, hp, Option.bind_some, hb]
  rfl
theorem pa {last j : Int} {part bt : Str} {bl : Nat} (hbt : behindF last j = bt) (hbl : bt.length = bl) : pieceAt last j part = if (part.length : Int) < (frontF last j).length + bl then none
  else if Txt.startswith part (frontF last j) = false then none
  else if Txt.endswith part bt = false then none
  else plainF (Txt.slice part (some (frontF last j).length) (some (part.length - bl))) := by
  subst hbt hbl
  rfl
section
variable {last j : Int} {part bt y : Str} {bl : Nat}
theorem pa_n1 (hbt : behindF last j = bt) (hbl : bt.length = bl) (h : (part.length : Int) < (frontF last j).length + bl) : pieceAt last j part = none := by rw [pa hbt hbl, if_pos h]
theorem pa_n2 (hbt : behindF last j = bt) (h : Txt.startswith part (frontF last j) = false) : pieceAt last j part = none := by
  rw [pa hbt rfl, if_pos h]
  split <;> rfl
theorem pa_n3 (hbt : behindF last j = bt) (h : Txt.endswith part bt = false) : pieceAt last j part = none := by
  rw [pa hbt rfl, if_pos h]
  split
  · rfl
  · split <;> rfl
theorem pa_n4 (hbt : behindF last j = bt) (hbl : bt.length = bl) (h : plainF (Txt.slice part (some (frontF last j).length) (some (part.length - bl))) = none) : pieceAt last j part = none := by
  rw [pa hbt hbl, h]
  split
  · rfl
  · split
    · rfl
    · split <;> rfl
theorem pa_s (hbt : behindF last j = bt) (hbl : bt.length = bl) (h1 : ¬ (part.length : Int) < (frontF last j).length + bl) (h2 : Txt.startswith part (frontF last j) = true) (h3 : Txt.endswith part bt = true) (h : plainF (Txt.slice part (some (frontF last j).length) (some (part.length - bl))) = some y) : pieceAt last j part = some y := by
  rw [pa hbt hbl, if_neg h1, if_neg (by rw [h2]; decide), if_neg (by rw [h3]; decide), h]
end
theorem behind_lt {last j : Int} (h : j < last) : behindF last j = closeF j ++ tailQ last j := by unfold behindF; rw [if_pos h]
theorem behind_ge {last j : Int} (h : ¬ j < last) : behindF last j = Str.ofString "" := by unfold behindF; rw [if_neg h]
theorem pieces_bad {x : Str} {LS : List (Str × Tok)} {q : Str × Tok} {k : Int} {n : Nat} {out : List Str} (hm : LS.map (·.1) = rawF x) (hq : LS[n]? = some q) (hk : k = (n : Int)) (hP : piecesTo ((LS.length : Int) - 1) (rawF x) n = some out) (hb : pieceAt ((LS.length : Int) - 1) k q.1 = none) (h2 : 2 ≤ LS.length) : piecesF x = none := by
  have hl : (rawF x).length = LS.length := by rw [← hm, List.length_map]
  unfold piecesF
  rw [if_neg (by omega), hl]
  have hq' : (rawF x)[n]? = some q.1 := by rw [← hm, List.getElem?_map, hq]; rfl
  rw [← hl]
  rw [← hl] at hP hb
  subst hk
  exact piecesTo_bad hP hq' hb (List.getElem?_eq_some_iff.mp hq').1
theorem pieces_step {x y : Str} {LS : List (Str × Tok)} {q : Str × Tok} {k : Int} {n : Nat} {out : List Str} (hm : LS.map (·.1) = rawF x) (hq : LS[n]? = some q) (hk : k = (n : Int)) (hP : piecesTo ((LS.length : Int) - 1) (rawF x) n = some out) (hb : pieceAt ((LS.length : Int) - 1) k q.1 = some y) : piecesTo ((LS.length : Int) - 1) (rawF x) (n + 1) = some (out ++ [y]) := by
  have hq' : (rawF x)[n]? = some q.1 := by rw [← hm, List.getElem?_map, hq]; rfl
  subst hk
  exact piecesTo_step hP hq' hb
theorem pieces_done {x : Str} {LS : List (Str × Tok)} {n : Nat} {out : List Str} (hm : LS.map (·.1) = rawF x) (hP : piecesTo ((LS.length : Int) - 1) (rawF x) n = some out) (hn : n = LS.length) (h2 : 2 ≤ LS.length) : piecesF x = some out := by
  have hl : (rawF x).length = LS.length := by rw [← hm, List.length_map]
  unfold piecesF
  rw [if_neg (by omega), hl, ← hn, hn]
  exact hn ▸ hP
theorem splitL_short : ∀ (l p : List Nat), p ∈ splitL l → p.length ≤ l.length
  | [], p, h => by
    have : p = [] := by simpa [splitL] using h
    subst this
    exact Nat.le_refl _
  | c :: r, p, h => by
    have ih := fun q => splitL_short r q
    unfold splitL at h
    split at h
    · rcases List.mem_cons.mp h with rfl | h
      · exact Nat.zero_le _
      · have := ih p h
        simp
        omega
    · split at h
      · have : p = [c] := by simpa using h
        subst this
        simp
      · rename_i a t e
        rw [e] at ih
        rcases List.mem_cons.mp h with rfl | h
        · have := ih a (.head _)
          simp
          omega
        · have := ih p (.tail _ h)
          simp
          omega
theorem raw_short {x p : Str} (h : p ∈ rawF x) : p.length ≤ x.length := by
  obtain ⟨l, hl, rfl⟩ := List.mem_map.mp h
  have := splitL_short _ _ hl
  have e1 : (ofL l).length = l.length := by simp [ofL, Str.length]
  have e2 : x.cps.toList.length = x.length := by simp [Str.length]
  omega
theorem pieces_one {x y : Str} {ls : List (Str × Tok)} (h : ls.map (·.1) ++ [y] = rawF x) (hl : (strValues ls).toArray.isEmpty = true) : piecesF x = none := by
  have : ls = [] := by simpa [strValues] using hl
  subst this
  unfold piecesF
  rw [if_pos (by rw [← h]; simp)]
end Lw
end
example : True := by k_with_none; w_top off; trivial
section
open PySem PySem.W PyProof.Rows
namespace Lw
open PySem.Calls
noncomputable def ComesTv (prog : Program) (w : World) (dd cc : Nat) (f : Addr) (news : List (Addr × Obj)) (vs : List Value) (P : Value → List (Addr × Obj) → Prop) (p : Program) (loose : List Str) (mean : ExcName → Option Value) (mg mb : Str → Option Value) (dp un : Nat) (gd : Option (List Code)) (env : Env) (A₀ : Around) (base h₀ : Heap) (L : Addr) (m : Str → Option Value) (s : Shared) (Q E : Value → Shared → Prop) : Prop :=
    Below A₀ base [] h₀ → Fr h₀ L s.heap m → (hd.heap_1 w.params).In h₀ → News h₀ L s.heap news → Top p loose mean mg mb h₀ → (hd.heap_1 w.params).In base → Top p loose mean mg mb base → CodeHd base 108 104 → CodeHd base 160 156 →
    env.frame = some L → env.scope.kind = .function → dp + dd < recursionLimit → un + cc < cLine →
    (∀ v nw h' tk', P v nw → Fr h₀ L h' m → News h₀ L h' nw → Q v { s with heap := h', toks := tk' }) →
    wpAny (model prog w) { handled := none, depth := dp, frames := some [env], guards := gd, units := un } (call (.ref f) vs) Q E s
noncomputable def ComesT (prog : Program) (w : World) (dd cc : Nat) (f : Addr) (news : List (Addr × Obj)) (vs : List Value) (P : Value → List (Addr × Obj) → Prop) : Prop :=
  ∀ (p : Program) (loose : List Str) (mean : ExcName → Option Value) (mg mb : Str → Option Value) (dp un : Nat) (gd : Option (List Code)) (env : Env) (A₀ : Around)
    (base h₀ : Heap) (L : Addr) (m : Str → Option Value) (s : Shared) (Q E : Value → Shared → Prop),
    ComesTv prog w dd cc f news vs P p loose mean mg mb dp un gd env A₀ base h₀ L m s Q E
section
variable {prog : Program} {w : World} {A₀ A : Around} {s : Shared} {base h₀ : Heap} {L : Addr} {m : Str → Option Value} {env : Env} {news : List (Addr × Obj)} {K : Frag} {p : Program} {loose : List Str} {mean : ExcName → Option Value} {mg mb : Str → Option Value}
  {R : Result → Shared → Prop} {name qual : Str} {params : Arguments} {body : List Stmt} {scope : Scope} {dV kV doc pm cdv ct oc : Value} {an od : Option Addr} {osl : Array (Option Value)} {f : Addr} {args : Args} {binds : List (Str × Value)}
theorem enter_top (B : Below A₀ base [] h₀) (F : Fr h₀ L s.heap m) (X₀ : K.In h₀) (N : News h₀ L s.heap news) (T : Top p loose mean mg mb h₀) (hA : A.frames = some [env]) (hf : env.frame = some L) (hke : env.scope.kind = .function)
    (ho : K.lookup f = some ⟨oc, od, .func (fnOf name qual params body scope dV kV doc pm an cdv ct), osl⟩) (hcd : codeIn K cdv qual = true) (hroom : A.depth < recursionLimit)
    (hbind : BindsTo s (fnOf name qual params body scope dV kV doc pm an cdv ct) args binds) (hloc : ∀ y ∈ binds, scope.names.lookup y.1 = some .local)
    (h : ∀ g L' h₁, Fr h₀ L g m → Fr g L' h₁ (fun y => binds.reverse.lookup y) → News g L' h₁ news → Below A base [env] g → K.In g → Top p loose mean mg mb g → KtsDicts ([env].filterMap (·.frame)) g →
      wpAny (model prog w) (A.deeper (envOf qual scope L' f cdv)) (execs body (envOf qual scope L' f cdv))
        (fun fl s' => LeaveS0 ([env].filterMap (·.frame)) h₀ L m g R (match fl with | .ret v => v | _ => .none) s')
        (fun e s' => wpAny (model prog w) (A.deeper (envOf qual scope L' f cdv)) (leaving (envOf qual scope L' f cdv) e) (fun _ s'' => R (.error e) s'') (fun e' s'' => R (.error e') s'') s')
        { s with heap := h₁, toks := s.toks + binds.length })
    (hco : scope.isCoroutine = false) (hgen : scope.isGenerator = false) (hk : scope.kind = .function)
    (hcell : ∀ x ∈ scope.names, x.2 ≠ .cell) : codeAny (model prog w) A (.call (.ref f) args) R s := by
  have hfs : [env].filterMap (·.frame) = [L] := by simp [hf]
  rw [hfs] at h
  have X := X₀.keeps F.keep
  refine codeAny_call_def (fd := fnOf name qual params body scope dV kV doc pm an cdv ct) (body := body) (binds := binds) hroom (X _ _ ho) rfl (T.nolimit.keeps F.keep) (codeRec_of X hcd) rfl hbind hcell hloc (fun h₁ hns hk₁ => ?_) hco hgen hk
  obtain ⟨FG, BG, st, _⟩ := groundX (R := R) B F N hA hf hke
  obtain ⟨oL, es, ep, hLg, hLd, hLk, hLf⟩ := FG.ns
  refine wpAny_mono (h _ s.heap.objs.size h₁ FG ⟨hns, fun b o e => hk₁ b o (of_hideAll _ e), Nat.le_of_eq (hideAll_size _ _)⟩
    (fun p hp => ⟨hk₁ _ _ (N p hp).1, Nat.ne_of_lt (Heap.lt_size (N p hp).1), hideAll_none _ (List.mem_map_of_mem hp)⟩) BG (X₀.keeps st) (T.keeps st) (fun b hb => by
      rw [List.mem_singleton.mp hb]
      exact ⟨oL, es, ep, hLg, hLd⟩)) (fun fl s' hl => ?_) fun _ _ y => y
  obtain ⟨g', L', m', news', T', F', N', k⟩ := hl
  have nL₀ : h₀.get? L = none := kts_self F
  obtain ⟨sl, hs⟩ := T'.up hLg
  refine k ⟨⟨_, es, ep, F'.keep _ _ hs, hLd, hLk, hLf⟩, fun b o e => F'.keep b o (T'.other b o (st b o e) (fun q => by
    rw [List.mem_singleton.mp q, nL₀] at e
    cases e)), F.above⟩ fun p hp => ⟨(N' p hp).1, fun q => ?_, ?_⟩
  · have := (N' p hp).2.2; rw [q, hs] at this; cases this
  · cases q : h₀.get? p.1 with
    | none => rfl
    | some o =>
      obtain ⟨sl', hs'⟩ := T'.up (st _ _ q)
      have := (N' p hp).2.2
      rw [hs'] at this
      cases this
end
theorem ComesS.use {prog : Program} {w : World} {dd cc : Nat} {f : Addr} {news : List (Addr × Obj)} {vs : List Value} {P : Value → List (Addr × Obj) → Prop} (C : ComesS prog w dd cc f news vs P)
    {p : Program} {loose : List Str} {mean : ExcName → Option Value} {mg mb : Str → Option Value} {dp un : Nat} {gd : Option (List Code)} {cn : Str} {cs : Scope} {a : Addr} {ccd : Value} {outer : List Env} {A₀ : Around}
    {base h₀ : Heap} {L : Addr} {m : Str → Option Value} {s : Shared} {Q E : Value → Shared → Prop}
    (B : Below A₀ base outer h₀) (F : Fr h₀ L s.heap m) (X : (hd.heap_1 w.params).In h₀) (N : News h₀ L s.heap news) (T : Top p loose mean mg mb h₀) (XB : (hd.heap_1 w.params).In base) (TB : Top p loose mean mg mb base) (C1 : CodeHd base 108 104) (C2 : CodeHd base 160 156)
    (D : KtsDicts (outer.filterMap (·.frame)) h₀) (hk : cs.kind = .function) (h1 : dp + dd < recursionLimit) (h2 : un + cc < cLine)
    (ret : ∀ v nw h' tk' h₀', P v nw → KtsTurn (outer.filterMap (·.frame)) h₀ h₀' → Fr h₀' L h' m → News h₀' L h' nw → Below A₀ base outer h₀' → (hd.heap_1 w.params).In h₀' → Top p loose mean mg mb h₀' → KtsDicts (outer.filterMap (·.frame)) h₀' →
      Q v { s with heap := h', toks := tk' }) :
    wpAny (model prog w) { handled := none, depth := dp, frames := some (envX cn cs L a ccd [] :: outer), guards := gd, units := un } (call (.ref f) vs) Q E s :=
  C _ _ _ _ _ _ _ _ _ _ _ _ _ _ _ _ _ _ _ _ _ B F X N T XB TB C1 C2 D hk h1 h2 ret
end Lw
end
example : True := by k_with_none; w_top off; trivial
section
open PySem PySem.W PyProof.Rows
namespace Lw
example : True := by
  k_with_none
  k_with "omega" => ((fail_if_success (fail_if_success (omega (config := {})))); first | lia | omega (config := {}))
  k_with "callWith ref" => ((k_here; k_dflt (refine' callWith_K ?kAw90 ?kBw90 ?_; (case kAw90 => k_asm); (case kBw90 => k_is); k_whole)))
  k_with "eval Name" => ((k_here; (fail_if_success (with_reducible show wpAny _ _ (eval (Expr.Name _ _) (compEnvC _ _ _ _)) _ _ _)); k_dflt (first | (refine' nameX_L ?Fw91 ?vw91 ?_ ?aw91 ?bw91; (case bw91 => rfl); (case Fw91 => k_asm); (case aw91 => rfl); (case vw91 => rfl); k_whole) | (refine' nameX_C ?Nw92 ?cw92 ?mw92 ?dw92 ?_ ?aw92 ?bw92; (case bw92 => rfl); (case aw92 => rfl); (case Nw92 => k_asm); (case cw92 => rfl); (case mw92 => k_mem); (case dw92 => k_asm); k_whole) | (refine' nameX_K ?Fw93 ?Xw93 ?Tw93 ?ew93 ?_ ?aw93 ?bw93; (case bw93 => rfl); (case Fw93 => k_asm); (case Xw93 => k_asm); (case Tw93 => k_asm); (case aw93 => rfl); (case ew93 => k_is); k_whole) | (refine' nameX_B ?Fw94 ?Xw94 ?Tw94 ?ew94 ?vw94 ?nw94 ?_ ?aw94 ?bw94; (case bw94 => rfl); (case Fw94 => k_asm); (case Xw94 => k_asm); (case Tw94 => k_asm); (case aw94 => rfl); (case ew94 => k_is); (case vw94 => boot_fast); (case nw94 => decide); k_whole))))
  k_with "execs cons" => ((k_here; refine execs_G ?_; intro G9w hG9w))
  k_with "Go" => (((try dsimp only); first | (refine go_next_S (by with_reducible assumption) ?_; intro tSw) | refine go_ret (by with_reducible assumption) ?_ | refine go_cont (by with_reducible assumption) ?_ | refine go_brk (by with_reducible assumption) ?_))
  k_with "k_ne" => ((with_reducible first | assumption | exact Ne.symm (by assumption) | exact Nat.ne_of_lt (by assumption) | exact Ne.symm (Nat.ne_of_lt (by assumption)) | fail "k_ne"))
  k_with "ktr_room" => (first | exact room_a (by with_reducible assumption) rfl | exact room_b (by with_reducible assumption) rfl | exact room_c (by with_reducible assumption) rfl | fail "room")
  k_with "ktr_units" => (first | exact room_a (by with_reducible assumption) rfl | exact room_b (by with_reducible assumption) rfl | exact room_c (by with_reducible assumption) rfl | fail "room")
  k_with "k_room" => (ktr_room)
  k_with "k_all" => (first | with_reducible assumption | exact all_gt (by assumption) (by ((try dsimp only); omega)))
  k_with "k_mem" => (assumption)
  trivial
theorem While_S {prog : Program} {w : World} {A : Around} {E : Value → Shared → Prop} {s : Shared} {env : Env} {test : PySem.Expr} {body orelse : List Stmt} {pos : Pos} {Q : Flow → Shared → Prop} (h : Stop (WhlRest prog w A E env test body orelse Q 0 s)) : wpAny (model prog w) A (exec (.While test body orelse pos) env) Q E s := whl_start 0 h
inductive PieJ (Cx : Heap → Prop) (L R : Addr) (m₀ : Str → Option Value) (rest : List (Addr × Obj)) (x : Str) (s : Shared) (k : Nat) (s' : Shared) : Prop
  | mk (g h : Heap) (tk : Nat) (tb : List (Addr × Obj)) (ls : List (Str × Tok)) (c : Nat) (b : Int) (u1 u2 : Tok) (zz1 : s' = { s with heap := h, toks := tk }) (zz2 : Cx g) (zz3 : TabA tb) (zz4 : Fr g L h (fun z => if z = Str.ofString "star" then some (.int (seekR x (Str.ofString "*") b) u1) else if z = Str.ofString "begin" then some (.int b u2) else if z = Str.ofString "raw" then some (.ref R) else m₀ z)) (zz5 : News g L h ((R, ({ cls := .type "list", data := .seq (strValues ls).toArray c } : Obj)) :: (tb ++ rest))) (zz6 : (∀ p ∈ tb ++ rest, p.1 ≠ R)) (zz7 : (ls.length : Int) ≤ b) (zz8 : 0 ≤ b) (zz9 : b ≤ x.length) (zz10 : k = x.length + 1 - b.toNat) (zz11 : ls.map (·.1) ++ (splitL (x.cps.toList.drop b.toNat)).map ofL = rawF x) : PieJ Cx L R m₀ rest x s k s'
noncomputable abbrev ktBase {fs : List Addr} {g g' : Heap} (_ : KtsTurn fs g g') : Heap := g
noncomputable abbrev nwObj2 {g h : Heap} {L a b : Addr} {o o' : Obj} {l : List (Addr × Obj)} (_ : News g L h ((a, o) :: (b, o') :: l)) : Obj := o'
theorem lt_both {a d : Addr} {o : Obj} {l : List (Addr × Obj)} (h : @LT.lt Nat instLTNat a d ∧ AllLt d l) : ∀ p ∈ (a, o) :: l, p.1 < d := fun p hp => by
  rcases List.mem_cons.mp hp with rfl | hp
  · exact h.1
  · exact allLt_mem h.2 p hp
theorem SeekOut.ex {rest : List (Addr × Obj)} {x y : Str} {i : Int} {v : Value} {nw : List (Addr × Obj)} (h : SeekOut rest x y i v nw) : ∃ tb u, TabA tb ∧ v = .int (seekR x y i) u ∧ nw = tb ++ rest := h
theorem strs_size {ls : List (Str × Tok)} {n : Nat} (h : ls.length ≤ n) (hn : n ≤ 5000) : (strValues ls).toArray.size ≤ sizeLine := by
  rw [sizeLine_eq]
  simp only [strValues, List.size_toArray, List.length_map]
  omega
theorem strs_fit {ls : List (Str × Tok)} {n : Nat} (h : ls.length ≤ n) (hn : n ≤ 5000) : (((strValues ls).toArray.size : Nat) : Int) < 2 ^ 63 := by
  simp only [strValues, List.size_toArray, List.length_map]
  omega
theorem PieJ.intro {Cx : Heap → Prop} {L R : Addr} {m₀ m' : Str → Option Value} {rest tb : List (Addr × Obj)} {x : Str} {s : Shared} {k : Nat} {g h : Heap} {tk : Nat} {ls : List (Str × Tok)} {c : Nat} {b : Int} {u1 u2 : Tok} (hc : Cx g) (ht : TabA tb)
    (F : Fr g L h (fun z => if z = Str.ofString "star" then some (.int (seekR x (Str.ofString "*") b) u1) else if z = Str.ofString "begin" then some (.int b u2) else m' z))
    (hm : ∀ z, z ≠ Str.ofString "star" → z ≠ Str.ofString "begin" → m' z = if z = Str.ofString "raw" then some (.ref R) else m₀ z)
    (N : News g L h ((R, ({ cls := .type "list", data := .seq (strValues ls).toArray c } : Obj)) :: (tb ++ rest))) (hR : ∀ p ∈ tb ++ rest, p.1 ≠ R) (hlb : (ls.length : Int) ≤ b) (h0 : 0 ≤ b) (h1 : b ≤ x.length) (hk : k = x.length + 1 - b.toNat)
    (hls : ls.map (·.1) ++ (splitL (x.cps.toList.drop b.toNat)).map ofL = rawF x) : PieJ Cx L R m₀ rest x s k { s with heap := h, toks := tk } := by
  have e : (fun z => if z = Str.ofString "star" then some (.int (seekR x (Str.ofString "*") b) u1) else if z = Str.ofString "begin" then some (.int b u2) else m' z) = (fun z => if z = Str.ofString "star" then some (.int (seekR x (Str.ofString "*") b) u1) else if z = Str.ofString "begin" then some (.int b u2) else if z = Str.ofString "raw" then some (.ref R) else m₀ z) := by
    funext z
    by_cases c1 : z = Str.ofString "star"
    · rw [if_pos c1, if_pos c1]
    · rw [if_neg c1, if_neg c1]
      by_cases c2 : z = Str.ofString "begin"
      · rw [if_pos c2, if_pos c2]
      · rw [if_neg c2, if_neg c2]
        exact hm z c1 c2
  rw [e] at F
  exact ⟨g, h, tk, tb, ls, c, b, u1, u2, rfl, hc, ht, F, N, hR, hlb, h0, h1, hk, hls⟩
theorem named_push {h₀ h : Heap} {L R : Addr} {tail : List (Addr × Obj)} {ls : List (Str × Tok)} {y : Str} {t : Tok} {c : Nat} (N : News h₀ L h ((R, ({ cls := .type "list", data := .seq ((strValues ls).toArray.push (.str y t)) c } : Obj)) :: tail)) :
    ∃ LS, LS = ls ++ [(y, t)] ∧ News h₀ L h ((R, ({ cls := .type "list", data := .seq (strValues LS).toArray c } : Obj)) :: tail) := ⟨_, rfl, by rw [strValues_push] at N; exact N⟩
theorem len_push {LS ls : List (Str × Tok)} {q : Str × Tok} (h : LS = ls ++ [q]) : LS.length = ls.length + 1 := by rw [h]; simp
theorem close_tail {last j : Int} : (closeF j).length + (tailQ last j).length ≤ sizeLine := by
  have h1 := closeF_le (j := j)
  have h2 := tailQ_le (last := last) (j := j)
  rw [sizeLine_eq]
  omega
theorem fits_front {last j : Int} : ¬ ((frontF last j).length : Int) ≥ 2 ^ 63 := by
  have h1 := frontF_le (last := last) (j := j)
  omega
theorem fits_close {last j : Int} : ¬ ((closeF j ++ tailQ last j).length : Int) ≥ 2 ^ 63 := by
  have h1 := closeF_le (j := j)
  have h2 := tailQ_le (last := last) (j := j)
  rw [Str.length_append]
  omega
noncomputable def Hid (p : Prop) : Prop := p
theorem rot_in {h₀ h : Heap} {L : Addr} {tb rest : List (Addr × Obj)} {a : Addr × Obj} (N : News h₀ L h (a :: (tb ++ rest))) : News h₀ L h (tb ++ a :: rest) := KStt.news_of N fun p hp => by
  simp only [List.mem_cons, List.mem_append] at hp ⊢
  grind
theorem rot_out {h₀ h : Heap} {L : Addr} {tb rest : List (Addr × Obj)} {a : Addr × Obj} (N : News h₀ L h (tb ++ a :: rest)) : News h₀ L h (a :: (tb ++ rest)) := KStt.news_of N fun p hp => by
  simp only [List.mem_cons, List.mem_append] at hp ⊢
  grind
theorem tab_ne {h₀ h : Heap} {L R : Addr} {tb rest : List (Addr × Obj)} {vs : Array Value} {n : Nat} (ht : TabA tb) (N : News h₀ L h (tb ++ (R, ({ cls := .type "list", data := .seq vs n } : Obj)) :: rest)) : ∀ p ∈ tb, p.1 ≠ R := fun p hp e => by
  have h1 := (N p (List.mem_append_left _ hp)).1
  have h2 := (N (R, ({ cls := .type "list", data := .seq vs n } : Obj)) (List.mem_append_right _ (.head _))).1
  rw [e] at h1
  dsimp only at h2
  rw [h2] at h1
  rcases ht with rfl | ⟨c, oc, ws, tq, rfl, hd, _⟩
  · rw [List.mem_singleton.mp hp] at h1
    cases h1
  · rcases List.mem_cons.mp hp with rfl | hp
    · cases h1
      cases hd
    · rw [List.mem_singleton.mp hp] at h1
      cases h1
theorem rot_ne {R : Addr} {o : Obj} {tb rest : List (Addr × Obj)} (ht : TabA tb) (hr : ∀ p ∈ rest, p.1 ≠ 104) (l : ∀ p ∈ tb ++ rest, p.1 ≠ R) : ∀ p ∈ (R, o) :: rest, p.1 ≠ 104 := fun p hp => by
  rcases List.mem_cons.mp hp with rfl | hp
  · obtain ⟨o', ho'⟩ := ht.mem
    exact Ne.symm (l _ (List.mem_append_left _ ho'))
  · exact hr p hp
example : True := by
  k_with "call builtin:list.append" => ((k_here; (with_reducible show wpAny _ _ (call (Value.builtin "list.append") [Value.ref _, Value.str _ _]) _ _ _); k_dflt (refine append_head (by k_asm) (by k_asm) (by assumption) ?_ (strs_size (n := 1000) (by omega) (by omega))); intro h'w F'w N'w; (obtain ⟨LS'w, hLS'w, N'w⟩ := named_push N'w)))
  k_with "truthy ref" => ((k_here; k_dflt (refine wpAny_truthy_list (News.isList (by k_asm) (by k_mem)) (strs_fit (n := 1000) (by omega) (by omega)) ?_)))
  k_with "subscriptTail Name Name ref int" => ((k_here; (with_reducible show wpAny _ _ (subscriptTail _ _ (Value.ref _) (Value.int _ _)) _ _ _); k_dflt (refine' item_strs ?k1w32 ?k2w32 ?k3w32 ?k4w32 ?k5w32 ?_ ?k6w32; (case k1w32 => k_asm); (case k2w32 => k_mem); (case k3w32 => omega); (case k4w32 => (first | exact Or.inl ⟨by omega, by omega, rfl⟩ | exact Or.inr ⟨by decide, by omega, rfl⟩)); (case k5w32 => assumption); (case k6w32 => with_unfolding_all rfl); intro q'w hq'w hqb'w)))
  trivial
theorem Comes.use {prog : Program} {w : World} {dd cc : Nat} {f : Addr} {news : List (Addr × Obj)} {vs : List Value} {P : Value → List (Addr × Obj) → Prop} (C : Comes prog w dd cc f news vs P)
    {p : Program} {loose : List Str} {mean : ExcName → Option Value} {mg mb : Str → Option Value} {dp un : Nat} {gd : Option (List Code)} {cn : Str} {cs : Scope} {a : Addr} {ccd : Value} {cl : List (Str × Addr)} {outer : List Env} {A₀ : Around}
    {base h₀ : Heap} {L : Addr} {m : Str → Option Value} {s : Shared} {Q E : Value → Shared → Prop}
    (B : Below A₀ base outer h₀) (F : Fr h₀ L s.heap m) (X : (_root_.hd.heap_1 w.params).In h₀) (N : News h₀ L s.heap news) (T : Top p loose mean mg mb h₀) (hk : cs.kind = .function) (h1 : dp + dd < recursionLimit) (h2 : un + cc < cLine)
    (ret : ∀ v nw h' tk', P v nw → Fr h₀ L h' m → News h₀ L h' (nw ++ news) → Q v { s with heap := h', toks := tk' }) :
    wpAny (model prog w) { handled := none, depth := dp, frames := some (envX cn cs L a ccd cl :: outer), guards := gd, units := un } (call (.ref f) vs) Q E s :=
  C _ _ _ _ _ _ _ _ _ _ _ _ _ _ _ _ _ _ _ _ _ _ B F X N T hk h1 h2 ret
theorem plain_two {x : Str} {v : Value} {nw : List (Addr × Obj)} (h : nw = [] ∧ match plainF x with | none => v = .none | some y => ∃ t', v = .str y t') : nw = [] ∧ ((plainF x = none ∧ v = .none) ∨ ∃ y t, plainF x = some y ∧ v = .str y t) := by
  refine ⟨h.1, ?_⟩
  have h := h.2
  cases e : plainF x with
  | none => rw [e] at h; exact .inl ⟨rfl, h⟩
  | some y => rw [e] at h; obtain ⟨t, h⟩ := h; exact .inr ⟨y, t, rfl, h⟩
example : True := by
  k_with "call ref" => (((with_reducible show wpAny _ _ (call (Value.ref 123) [_]) _ _ _); k_here; k_dflt (refine' Comes.use (plain_call _ _ _ _ _ ?uhxw33) ?uBw33 ?uFw33 ?uXw33 ?uNw33 ?uTw33 ?uhkw33 ?uhdw33 ?uhuw33 ?_; (case uBw33 => k_asm); (case uFw33 => k_asm); (case uXw33 => k_asm); (case uTw33 => k_asm); (case uNw33 => k_asm); (case uhkw33 => exact rfl); (case uhdw33 => ktr_room); (case uhuw33 => ktr_units); (case uhxw33 => omega)); intro v'w nw'w h'w tk'w P'w F'w N'w; (obtain ⟨hn'w, (⟨he'w, hv'w⟩ | ⟨y'w, t'w, he'w, hv'w⟩)⟩ := plain_two P'w) <;> (subst hv'w; subst hn'w; (have N'w := List.nil_append _ ▸ N'w))))
  k_with "call ref" => (((with_reducible show wpAny _ _ (call (Value.ref 116) [_, _, _]) _ _ _); k_here; k_dflt (refine' ComesS.use (seek_call _ _ _ _ _ _ _ _ _ _ ?uhtw34 ?uhxw34 ?uhyw34 ?uh0w34 ?uhiw34 ?uhrw34 ?uhsw34) ?uBw34 ?uFw34 ?uXw34 ?uNw34 ?uTw34 ?uXBw34 ?uTBw34 ?uC1w34 ?uC2w34 ?uDw34 ?uhkw34 ?uhdw34 ?uhuw34 ?_; (case uhtw34 => assumption); (case uBw34 => k_asm); (case uFw34 => k_asm); (case uXw34 => k_asm); (case uTw34 => k_asm); (case uXBw34 => assumption); (case uTBw34 => assumption); (case uNw34 => exact rot_in (by k_asm)); (case uC1w34 => assumption); (case uC2w34 => assumption); (case uDw34 => assumption); (case uhkw34 => exact rfl); (case uhdw34 => ktr_room); (case uhuw34 => ktr_units); (case uhxw34 => omega); (case uhyw34 => decide); (case uh0w34 => omega); (case uhiw34 => omega); (case uhrw34 => decide +kernel); (case uhsw34 => exact rot_ne (by assumption) (by assumption) (by first | assumption | exact ne_of_lts (by assumption)))); intro v'w nw'w h'w tk'w h₀'w P'w T'w F'w N'w B'w X'w TT'w D'w; (obtain ⟨tb'w, u'w, ht'w, hv'w, hn'w⟩ := SeekOut.ex P'w); subst hv'w; subst hn'w; (have N'w := rot_out N'w)))
  k_with "exec While Compare cons nil" => ((k_here; k_dflt (refine While_S ?_)))
  trivial
theorem no_four {a b c d z : Str} (h : [a, b, c, d].contains z = false) : z ≠ a ∧ z ≠ b ∧ z ≠ c ∧ z ≠ d := by
  simpa using h
theorem pcs_nxt {out LO : List (Str × Tok)} {q : Str × Tok} {x : Str} {k last : Int} {pre : List Int} (e : LO = out ++ [q]) (h1 : out.length = pre.length) (h2 : pre.length = k.toNat) (h : piecesTo last (rawF x) (k.toNat + 1) = some (out.map (·.1) ++ [q.1])) : LO.length = (pre ++ [k]).length ∧ piecesTo last (rawF x) (pre ++ [k]).length = some (LO.map (·.1)) := by
  subst e
  rw [List.length_append, List.length_append, h1, List.map_append, h2]
  exact ⟨rfl, h⟩
noncomputable def PiecesOut (rest : List (Addr × Obj)) (x : Str) (v : Value) (nw : List (Addr × Obj)) : Prop :=
  ∃ tb, TabA tb ∧ ((piecesF x = none ∧ v = .none ∧ nw = tb ++ rest) ∨ ∃ D ls c, v = .ref D ∧ piecesF x = some (ls.map (·.1)) ∧ nw = (D, ({ cls := .type "list", data := .seq (strValues ls).toArray c } : Obj)) :: (tb ++ rest) ∧ ∀ p ∈ tb ++ rest, p.1 ≠ D)
namespace Pc
noncomputable def S0 (prog : Program) (w : World) (tb rest : List (Addr × Obj)) (x : Str) (t : Tok) (p : Program) (loose : List Str) (mean : ExcName → Option Value) (mg : Str → Option Value) (mb : Str → Option Value) (dp : Nat) (un : Nat) (gd : Option (List Code)) (env : Env) (A₀ : Around) (base : Heap) (h₀ : Heap) (L : Addr) (m : Str → Option Value) (s : Shared) (Q : Value → Shared → Prop) (E : Value → Shared → Prop) : Prop :=
  TabA tb → x.length ≤ 800 → (∀ p ∈ rest, p.1 ≠ 104) → 
  ComesTv prog w 40 600 130 (tb ++ rest) [.str x t] (PiecesOut rest x) p loose mean mg mb dp un gd env A₀ base h₀ L m s Q E
noncomputable def P0 (x : Program × World × (List (Addr × Obj)) × (List (Addr × Obj)) × Str × Tok × Program × List Str × (ExcName → Option Value) × (Str → Option Value) × (Str → Option Value) × Nat × Nat × Option (List Code) × Env × Around × Heap × Heap × Addr × (Str → Option Value) × Shared × (Value → Shared → Prop) × (Value → Shared → Prop)) : Prop := S0 x.1 x.2.1 x.2.2.1 x.2.2.2.1 x.2.2.2.2.1 x.2.2.2.2.2.1 x.2.2.2.2.2.2.1 x.2.2.2.2.2.2.2.1 x.2.2.2.2.2.2.2.2.1 x.2.2.2.2.2.2.2.2.2.1 x.2.2.2.2.2.2.2.2.2.2.1 x.2.2.2.2.2.2.2.2.2.2.2.1 x.2.2.2.2.2.2.2.2.2.2.2.2.1 x.2.2.2.2.2.2.2.2.2.2.2.2.2.1 x.2.2.2.2.2.2.2.2.2.2.2.2.2.2.1 x.2.2.2.2.2.2.2.2.2.2.2.2.2.2.2.1 x.2.2.2.2.2.2.2.2.2.2.2.2.2.2.2.2.1 x.2.2.2.2.2.2.2.2.2.2.2.2.2.2.2.2.2.1 x.2.2.2.2.2.2.2.2.2.2.2.2.2.2.2.2.2.2.1 x.2.2.2.2.2.2.2.2.2.2.2.2.2.2.2.2.2.2.2.1 x.2.2.2.2.2.2.2.2.2.2.2.2.2.2.2.2.2.2.2.2.1 x.2.2.2.2.2.2.2.2.2.2.2.2.2.2.2.2.2.2.2.2.2.1 x.2.2.2.2.2.2.2.2.2.2.2.2.2.2.2.2.2.2.2.2.2.2
noncomputable def k0 : Program × World × (List (Addr × Obj)) × (List (Addr × Obj)) × Str × Tok × Program × List Str × (ExcName → Option Value) × (Str → Option Value) × (Str → Option Value) × Nat × Nat × Option (List Code) × Env × Around × Heap × Heap × Addr × (Str → Option Value) × Shared × (Value → Shared → Prop) × (Value → Shared → Prop) := henk (qv, aWorld 1, [], [], default, default, qv, [], fun _ => none, fun _ => none, fun _ => none, 0, 0, none, default, hen_a, default, default, 0, fun _ => none, hen_s, fun _ _ => True, fun _ _ => True) P0
@[irreducible] noncomputable def prog : Program := k0.1
@[irreducible] noncomputable def w : World := k0.2.1
@[irreducible] noncomputable def tb : List (Addr × Obj) := k0.2.2.1
@[irreducible] noncomputable def rest : List (Addr × Obj) := k0.2.2.2.1
@[irreducible] noncomputable def x : Str := k0.2.2.2.2.1
@[irreducible] noncomputable def t : Tok := k0.2.2.2.2.2.1
@[irreducible] noncomputable def p : Program := k0.2.2.2.2.2.2.1
@[irreducible] noncomputable def loose : List Str := k0.2.2.2.2.2.2.2.1
@[irreducible] noncomputable def mean : ExcName → Option Value := k0.2.2.2.2.2.2.2.2.1
@[irreducible] noncomputable def mg : Str → Option Value := k0.2.2.2.2.2.2.2.2.2.1
@[irreducible] noncomputable def mb : Str → Option Value := k0.2.2.2.2.2.2.2.2.2.2.1
@[irreducible] noncomputable def dp : Nat := k0.2.2.2.2.2.2.2.2.2.2.2.1
@[irreducible] noncomputable def un : Nat := k0.2.2.2.2.2.2.2.2.2.2.2.2.1
@[irreducible] noncomputable def gd : Option (List Code) := k0.2.2.2.2.2.2.2.2.2.2.2.2.2.1
@[irreducible] noncomputable def env : Env := k0.2.2.2.2.2.2.2.2.2.2.2.2.2.2.1
@[irreducible] noncomputable def A₀ : Around := k0.2.2.2.2.2.2.2.2.2.2.2.2.2.2.2.1
@[irreducible] noncomputable def base : Heap := k0.2.2.2.2.2.2.2.2.2.2.2.2.2.2.2.2.1
@[irreducible] noncomputable def h₀ : Heap := k0.2.2.2.2.2.2.2.2.2.2.2.2.2.2.2.2.2.1
@[irreducible] noncomputable def L : Addr := k0.2.2.2.2.2.2.2.2.2.2.2.2.2.2.2.2.2.2.1
@[irreducible] noncomputable def m : Str → Option Value := k0.2.2.2.2.2.2.2.2.2.2.2.2.2.2.2.2.2.2.2.1
@[irreducible] noncomputable def s : Shared := k0.2.2.2.2.2.2.2.2.2.2.2.2.2.2.2.2.2.2.2.2.1
@[irreducible] noncomputable def Q : Value → Shared → Prop := k0.2.2.2.2.2.2.2.2.2.2.2.2.2.2.2.2.2.2.2.2.2.1
@[irreducible] noncomputable def E : Value → Shared → Prop := k0.2.2.2.2.2.2.2.2.2.2.2.2.2.2.2.2.2.2.2.2.2.2
theorem main : S0 prog w tb rest x t p loose mean mg mb dp un gd env A₀ base h₀ L m s Q E := by
  unfold S0 ComesTv
  intro ht hx hr B F X N T XB TB C1 C2 hf hk hd hu hret
  refine wpAny_call ?_
  refine' enter_top ?k1 ?k2 ?k3 ?k4 ?k5 ?kA ?kF ?kE ?k6 ?k7 ?k8 ?k9 ?kB ?_ ?c2 ?c3 ?c4 ?c5; (case kA => exact rfl); (case kF => assumption); (case kE => assumption); (case k2 => k_asm); (case k1 => k_asm); (case k3 => k_asm); (case k4 => k_asm); (case k5 => k_asm); (case k6 => k_is); (case k7 => k_is); (case k8 => k_room); (case k9 => exact BindsTo.of_eq rfl); (case kB => exact locs rfl); (case c2 => exact rfl); (case c3 => exact rfl); (case c4 => exact rfl); (case c5 => decide); k_whole; intro g' L' h' FG' F' N' B' X' T' D'; (try dsimp only); (try k_lift B'); (try k_fold)
  k_steps
  show WhlRest _ _ _ _ _ _ _ _ _ _ _
  (with_reducible rename Fr _ _ _ _ => F1; with_reducible rename News _ _ _ _ => N1; with_reducible rename Below _ _ _ _ => B1; with_reducible rename KtsTurn _ _ _ => T1; with_reducible rename KtsDicts _ _ => D1; with_reducible rename Frag.In _ _ => X1; with_reducible rename Top _ _ _ _ _ _ => TP1; with_reducible rename TabA _ => tA1)
  refine while_ind (PieJ (fun g => Below _ base [env] g ∧ (_root_.hd.heap_1 w.params).In g ∧ Top p loose mean mg mb g ∧ KtsDicts ([env].filterMap (·.frame)) g ∧ KtsTurn ([env].filterMap (·.frame)) (ktBase T1) g) (frL F1) (nwHead N1) (fun z => _) rest x s) (by passes_own) ?_ _ _ ⟨_, _, _, _, [], _, 0, _, _, rfl, ⟨B1, X1, TP1, D1, T1⟩, tA1, F1, N1, ?_, by simp, by omega, by omega, rfl, by simp [rawF]⟩
  rotate_left
  · exact fun p hp => (List.mem_append.mp hp).elim (fun h => tab_ne tA1 (rot_in N1) p h) (fun h => ne_of_lts (l := tb ++ rest) (by assumption) p (List.mem_append_right _ h))
  intro n s1 hj
  refine hideG ?_
  intro b9 hb9
  rcases hj with ⟨g, h, tk, tb2, ls, c, b, u1, u2, rfl, ⟨B2, X2, TP2, D2, T2⟩, tA2, F2, N2, hR2, hlb, hb0, hb1, rfl, hls⟩
  refine hb9 ?_
  clear hb9 b9
  dsimp only [frL, nwHead, ktBase] at F2 N2 hR2 T2 ⊢
  clear N1 F1 B1 X1 TP1 D1 tA1
  rcases seek_star x b hb0 hb1 with ⟨e, hsp⟩ | ⟨st, e, hs1, hs2, hsp⟩
  · rw [e] at F2
    have hraw : ls.map (·.1) ++ [Txt.slice x (some b) none] = rawF x := by
      rw [slice_from hb0 hb1, ← hls, hsp]
      rfl
    (k_with "pyIter ref" => (refine stopAt0 ?_))
    (k_with "call builtin:len" => (first | (refine PySem.P.len_str fits_front ?_) | (refine PySem.P.len_str fits_close ?_) | (k_here; k_dflt (refine' len_strs ?k1 ?k2 ?k3 ?_); (case k1 => k_asm); (case k2 => k_mem); (case k3 => (rw [len_push (by assumption)]; omega)))))
    k_steps
    · (with_reducible rename Fr _ _ _ _ => F6; with_reducible rename News _ _ _ _ => N6)
      exact hret _ _ _ _ ⟨_, tA2, .inl ⟨pieces_one hraw (by assumption), rfl, rfl⟩⟩ F6 (KStt.news_of N6 fun p hp => .tail _ hp)
    (with_reducible rename Fr _ _ _ _ => F1; with_reducible rename News _ _ _ _ => N1; with_reducible rename IsRange _ _ _ _ _ _ _ _ => rgX; with_reducible rename _ = _ ++ [_] => eLS)
    with_reducible rename List (Str × Tok) => LS
    have hLl : LS.length = ls.length + 1 := len_push eLS
    have hLm : LS.map (·.1) = rawF x := by rw [eLS, List.map_append]; exact hraw
    have hL2 : 2 ≤ LS.length := by
      have : ls ≠ [] := fun e => by subst e; simp_all [strValues]
      have := List.length_pos_iff.mpr this
      omega
    have hLs : ∀ q ∈ LS, q.1.length ≤ 800 := fun q hq => Nat.le_trans (raw_short (hLm ▸ List.mem_map_of_mem hq)) hx
    clear eLS
    have lPa := lt_both (a := nwHead2 N1) (o := nwObj2 N1) (l := tb2 ++ rest) (d := nwHead N1) (by assumption)
    dsimp only [nwHead, nwHead2, nwObj2] at lPa
    have hL8 : LS.length ≤ 801 := by omega
    revert F1 N1
    repeat (with_reducible rename News _ _ _ _ => zz; clear zz)
    repeat (with_reducible rename Fr _ _ _ _ => zz; clear zz)
    clear hls hsp hraw hlb hb0 hb1 e hLl hR2
    intro F1 N1
    with_unfolding_all refine texts_range2 [Str.ofString "front", Str.ofString "behind", Str.ofString "part", Str.ofString "plain"] (piecesF x = none) (fun pre out => out.length = pre.length ∧ piecesTo ((LS.length : Int) - 1) (rawF x) pre.length = some (out.map (·.1))) (by rfl) rgX (small_one (by omega) (by omega) (by omega) (by omega)) (rangeSize_nat _ _) F1 (ls₀ := []) N1 ?_ ?_ ?_ ?_
    · exact ⟨rfl, rfl⟩
    · rintro out co pre k tk5 u5 h5 tq5 own5 hk5 hlt5 off5 ⟨hlo5, hP5⟩ F5 N5 G5 hB5 hG5
      have hS5 := ne_app (a := (_, _) :: (tb2 ++ rest)) lPa off5
      have hPk : piecesTo ((LS.length : Int) - 1) (rawF x) k.toNat = some (out.map (·.1)) := by rw [show k.toNat = pre.length by omega]; exact hP5
      clear N1 F1
      refine exI (l := LS) (i := pre.length) (by omega) fun q5 hq5 => ?_
      have hk6 : k = (pre.length : Int) := by omega
      have hk8 : Hid (k = (k.toNat : Int) ∧ pre.length = k.toNat ∧ LS.map (·.1) = rawF x ∧ 2 ≤ LS.length ∧ piecesTo ((LS.length : Int) - 1) (rawF x) k.toNat = some (out.map (·.1)) ∧ out.length = pre.length) := ⟨by omega, by omega, hLm, hL2, hPk, hlo5⟩
      clear hk5 hPk hP5 hLm
      (k_with "eval IfExp" => (first
        | ((with_reducible show wpAny _ _ (eval (Expr.IfExp (Expr.Compare _ (CmpOp.Lt :: _) _ _) _ _ _) _) _ _ _); refine IfExp_const (z := frontF ((LS.length : Int) - 1) k) (decide (0 < k ∧ k < (LS.length : Int) - 1)) ?_ rfl ?_; (rotate_left; intro t9 tk9; rotate_left))
        | ((with_reducible show wpAny _ _ (eval (Expr.IfExp (Expr.Name _ _) _ _ _) _) _ _ _); refine IfExp_const (z := closeF k) (decide (k ≠ 0)) ?_ rfl ?_; (rotate_left; intro t9 tk9; rotate_left))
        | ((with_reducible show wpAny _ _ (eval (Expr.IfExp (Expr.Compare _ (CmpOp.Eq :: _) _ _) _ _ _) _) _ _ _); refine IfExp_const (z := tailQ ((LS.length : Int) - 1) k) (decide (k = (LS.length : Int) - 1 - 1)) ?_ rfl ?_; (rotate_left; intro t9 tk9; rotate_left))))
      (k_with "binaryOp Add str str" => (refine PyProof.Rows.add_str ?_ (close_tail); intro t9 tk9))
      k_steps
      · exact ⟨by rw [Bool.eq_iff_iff]; simp only [decide_eq_true_eq]; omega, _, rfl⟩
      · exact ⟨by rw [eq_comm, decide_eq_false_iff_not]; omega, _, rfl⟩
      · exact ⟨by rw [Bool.eq_iff_iff]; simp, _, rfl⟩
      · exact ⟨by rw [Bool.eq_iff_iff]; simp, _, rfl⟩
      · (with_reducible rename _[_]? = some _ => hq6; with_reducible rename Fr _ _ _ _ => F6; with_reducible rename News _ _ _ _ => N6); exact hB5 _ _ _ (pieces_bad hk8.2.2.1 hq6 hk8.1 hk8.2.2.2.2.1 (pa_n1 (behind_lt (by with_reducible assumption)) (rfl) (by with_reducible assumption)) hk8.2.2.2.1) F6 (KStt.news_of N6 fun p hp => .tail _ hp)
      · (with_reducible rename _[_]? = some _ => hq6; with_reducible rename Fr _ _ _ _ => F6; with_reducible rename News _ _ _ _ => N6); exact hB5 _ _ _ (pieces_bad hk8.2.2.1 hq6 hk8.1 hk8.2.2.2.2.1 (pa_n4 (behind_lt (by with_reducible assumption)) (rfl) (by with_reducible assumption)) hk8.2.2.2.1) F6 (KStt.news_of N6 fun p hp => .tail _ hp)
      · with_reducible rename _ = _ ++ [_] => eLO
        (with_reducible rename _[_]? = some _ => hq6; with_reducible rename Fr _ _ _ _ => F6; with_reducible rename News _ _ _ _ => N6)
        exact hG5 _ _ _ _ _ F6 (fun z h1 h2 => by
          have h3 := no_four h2
          simp only [if_neg h1, if_neg h3.1, if_neg h3.2.1, if_neg h3.2.2.1, if_neg h3.2.2.2, h2, Bool.false_eq_true, if_false]) N6 (pcs_nxt eLO hk8.2.2.2.2.2 hk8.2.1 (pieces_step hk8.2.2.1 hq6 hk8.1 hk8.2.2.2.2.1 (pa_s (behind_lt (by with_reducible assumption)) (rfl) (by with_reducible assumption) (by with_reducible assumption) (by with_reducible assumption) (by with_reducible assumption))))
      · (with_reducible rename _[_]? = some _ => hq6; with_reducible rename Fr _ _ _ _ => F6; with_reducible rename News _ _ _ _ => N6); exact hB5 _ _ _ (pieces_bad hk8.2.2.1 hq6 hk8.1 hk8.2.2.2.2.1 (pa_n3 (behind_lt (by with_reducible assumption)) (by with_reducible assumption)) hk8.2.2.2.1) F6 (KStt.news_of N6 fun p hp => .tail _ hp)
      · (with_reducible rename _[_]? = some _ => hq6; with_reducible rename Fr _ _ _ _ => F6; with_reducible rename News _ _ _ _ => N6); exact hB5 _ _ _ (pieces_bad hk8.2.2.1 hq6 hk8.1 hk8.2.2.2.2.1 (pa_n2 (behind_lt (by with_reducible assumption)) (by with_reducible assumption)) hk8.2.2.2.1) F6 (KStt.news_of N6 fun p hp => .tail _ hp)
      · (with_reducible rename _[_]? = some _ => hq6; with_reducible rename Fr _ _ _ _ => F6; with_reducible rename News _ _ _ _ => N6); exact hB5 _ _ _ (pieces_bad hk8.2.2.1 hq6 hk8.1 hk8.2.2.2.2.1 (pa_n1 (bl := 0) (behind_ge (by with_reducible assumption)) (by decide) (by with_reducible assumption)) hk8.2.2.2.1) F6 (KStt.news_of N6 fun p hp => .tail _ hp)
      · (with_reducible rename _[_]? = some _ => hq6; with_reducible rename Fr _ _ _ _ => F6; with_reducible rename News _ _ _ _ => N6); exact hB5 _ _ _ (pieces_bad hk8.2.2.1 hq6 hk8.1 hk8.2.2.2.2.1 (pa_n4 (bl := 0) (behind_ge (by with_reducible assumption)) (by decide) (by with_reducible assumption)) hk8.2.2.2.1) F6 (KStt.news_of N6 fun p hp => .tail _ hp)
      · with_reducible rename _ = _ ++ [_] => eLO
        (with_reducible rename _[_]? = some _ => hq6; with_reducible rename Fr _ _ _ _ => F6; with_reducible rename News _ _ _ _ => N6)
        exact hG5 _ _ _ _ _ F6 (fun z h1 h2 => by
          have h3 := no_four h2
          simp only [if_neg h1, if_neg h3.1, if_neg h3.2.1, if_neg h3.2.2.1, if_neg h3.2.2.2, h2, Bool.false_eq_true, if_false]) N6 (pcs_nxt eLO hk8.2.2.2.2.2 hk8.2.1 (pieces_step hk8.2.2.1 hq6 hk8.1 hk8.2.2.2.2.1 (pa_s (bl := 0) (behind_ge (by with_reducible assumption)) (by decide) (by with_reducible assumption) (by with_reducible assumption) (by with_reducible assumption) (by with_reducible assumption))))
      · (with_reducible rename _[_]? = some _ => hq6; with_reducible rename Fr _ _ _ _ => F6; with_reducible rename News _ _ _ _ => N6); exact hB5 _ _ _ (pieces_bad hk8.2.2.1 hq6 hk8.1 hk8.2.2.2.2.1 (pa_n3 (behind_ge (by with_reducible assumption)) (by with_reducible assumption)) hk8.2.2.2.1) F6 (KStt.news_of N6 fun p hp => .tail _ hp)
      · (with_reducible rename _[_]? = some _ => hq6; with_reducible rename Fr _ _ _ _ => F6; with_reducible rename News _ _ _ _ => N6); exact hB5 _ _ _ (pieces_bad hk8.2.2.1 hq6 hk8.1 hk8.2.2.2.2.1 (pa_n2 (behind_ge (by with_reducible assumption)) (by with_reducible assumption)) hk8.2.2.2.1) F6 (KStt.news_of N6 fun p hp => .tail _ hp)
    · intro hbad h' tk' m' F' N'
      clear N1 F1
      dsimp only
      k_steps
      (with_reducible rename Fr _ _ _ _ => F6; with_reducible rename News _ _ _ _ => N6)
      exact hret _ _ _ _ ⟨_, tA2, .inl ⟨hbad, rfl, rfl⟩⟩ F6 (KStt.news_of N6 fun p hp => .tail _ hp)
    · rintro out co u5 h5 tq5 ⟨hlo5, hP5⟩ F5 N5
      clear N1 F1
      k_steps
      (with_reducible rename Fr _ _ _ _ => F6; with_reducible rename News _ _ _ _ => N6)
      exact hret _ _ _ _ ⟨_, tA2, .inr ⟨_, out, _, rfl, pieces_done hLm hP5 (by rw [rangeKs_length]; omega) hL2, rfl, ne_of_lts fun p hp => lPa p (.tail _ hp)⟩⟩ F6 (KStt.news_of N6 fun p hp => (List.mem_cons.mp hp).elim (fun h => h ▸ .head _) fun h => .tail _ (.tail _ h))
  · rw [e] at F2
    k_steps
    with_reducible rename _ = _ ++ [_] => eLS
    subst eLS
    (with_reducible rename Fr _ _ _ _ => F1; with_reducible rename News _ _ _ _ => N1; with_reducible rename Below _ _ _ _ => B1; with_reducible rename KtsTurn _ _ _ => T1; with_reducible rename KtsDicts _ _ => D1; with_reducible rename Frag.In _ _ => X1; with_reducible rename Top _ _ _ _ _ _ => TP1; with_reducible rename TabA _ => tA1)
    refine ⟨_, ?_, PieJ.intro (b := (st : Int) + 1) ⟨B1, X1, TP1, D1, T2.trans T1⟩ tA1 F1 (fun z h1 h2 => by simp only [if_neg h1, if_neg h2]) N1 (fun p hp => (List.mem_append.mp hp).elim (fun h => tab_ne tA1 (rot_in N1) p h) (fun h => hR2 p (List.mem_append_right _ h))) ?_ (by omega) (by omega) rfl ?_⟩
    · omega
    · simp only [List.length_append, List.length_cons, List.length_nil]
      omega
    · rw [List.map_append, show ((st : Int) + 1).toNat = st + 1 by omega, ← hls, hsp]
      simp
end Pc
theorem pieces_call (prog : Program) (w : World) (tb rest : List (Addr × Obj)) (x : Str) (t : Tok) (ht : TabA tb) (hx : x.length ≤ 800) (hr : ∀ p ∈ rest, p.1 ≠ 104) :
    ComesT prog w 40 600 130 (tb ++ rest) [.str x t] (PiecesOut rest x) := fun p loose mean mg mb dp un gd env A₀ base h₀ L m s Q E => henk_all (P := Pc.P0) (by with_unfolding_all exact Pc.main) (prog, w, tb, rest, x, t, p, loose, mean, mg, mb, dp, un, gd, env, A₀, base, h₀, L, m, s, Q, E) ht hx hr
end Lw
end
example : True := by k_with_none; w_top off; trivial
section
open PySem PySem.W PyProof.Rows
namespace Lw
example : True := by
  k_with_none
  k_with "omega" => ((fail_if_success (fail_if_success (omega (config := {})))); first | lia | omega (config := {}))
  k_with "k_room" => (ktr_room)
  k_with "k_all" => (first | with_reducible assumption | exact all_gt (by assumption) (by ((try dsimp only); omega)))
  k_with "k_mem" => (assumption)
  trivial
noncomputable def midGo (y : Str) : Int → List Str → Int ⊕ Int
  | place, [] => .inr place
  | place, p :: r => if seekR y p place < 0 then .inl (seekR y p place) else midGo y (seekR y p place + p.length) r
open PySem.StrLaws in
noncomputable def ReachIs (ps : List Str) (y : Str) (r : Int) : Prop :=
  ∃ p0 mid pl, ps = p0 :: (mid ++ [pl]) ∧ ((Txt.slice y none (some p0.length) ≠ p0 ∧ r = -1) ∨ (Txt.slice y none (some p0.length) = p0 ∧ (midGo y p0.length mid = .inl r ∨ ∃ place, midGo y p0.length mid = .inr place ∧
    ((seekR y pl place < 0 ∧ r = seekR y pl place) ∨ (0 ≤ seekR y pl place ∧ pl = Str.ofString "" ∧ r = y.length) ∨
     (pl ≠ Str.ofString "" ∧ ∃ far : Nat, place ≤ far ∧ At y pl y.length far ∧ (∀ k : Nat, far < k → ¬ At y pl y.length k) ∧ r = (far : Int) + pl.length)))))
noncomputable def ReachOut (rest : List (Addr × Obj)) (ps : List Str) (y : Str) (v : Value) (nw : List (Addr × Obj)) : Prop :=
  ∃ tb r u, TabA tb ∧ v = .int r u ∧ ReachIs ps y r ∧ nw = tb ++ rest
theorem le_sum_mem {q : Str × Tok} : ∀ {l : List (Str × Tok)}, q ∈ l → q.1.length ≤ (l.map (·.1.length)).sum
  | [], h => nomatch h
  | a :: l, h => by
    rcases List.mem_cons.mp h with rfl | h
    · simp
    · have := le_sum_mem h
      simp only [List.map_cons, List.sum_cons]
      omega
theorem midGo_app {y : Str} : ∀ {a b : List Str} {p : Int}, midGo y p (a ++ b) = match midGo y p a with | .inl f => .inl f | .inr q => midGo y q b
  | [], _, _ => rfl
  | x :: a, b, p => by
    simp only [List.cons_append, midGo]
    by_cases c : seekR y x p < 0
    · rw [if_pos c, if_pos c]
    · rw [if_neg c, if_neg c]
      exact midGo_app
theorem midGo_stop {y : Str} {mid : List Str} {i : Nat} {p : Str} {pl place : Int} (h : midGo y pl (mid.take i) = .inr place) (hp : mid[i]? = some p) (hs : seekR y p place < 0) : midGo y pl mid = .inl (seekR y p place) := by
  have hlt := (List.getElem?_eq_some_iff.mp hp).1
  have e : mid = mid.take i ++ p :: mid.drop (i + 1) := by
    have h2 : mid.drop i = p :: mid.drop (i + 1) := by
      rw [List.drop_eq_getElem_cons hlt]
      congr 1
      rw [List.getElem?_eq_getElem hlt] at hp
      exact Option.some.inj hp
    rw [← h2, List.take_append_drop]
  rw [e, midGo_app, h]
  show midGo y place (p :: _) = _
  rw [midGo, if_pos hs]
theorem midGo_step {y : Str} {mid : List Str} {i : Nat} {p : Str} {pl place : Int} (h : midGo y pl (mid.take i) = .inr place) (hp : mid[i]? = some p) (hs : ¬ seekR y p place < 0) : midGo y pl (mid.take (i + 1)) = .inr (seekR y p place + p.length) := by
  have e : mid.take (i + 1) = mid.take i ++ [p] := by rw [List.take_add_one, hp]; rfl
  rw [e, midGo_app, h]
  show midGo y place [p] = _
  rw [midGo, if_neg hs]
  rfl
open PySem.StrLaws in
theorem seek_at {y p : Str} {i : Int} (h0 : 0 ≤ i) (h : ¬ seekR y p i < 0) : ∃ k : Nat, seekR y p i = k ∧ i ≤ k ∧ At y p y.length k := by
  rw [seek_ge h0] at h ⊢
  rcases seek_spec y p i h0 with ⟨e, _⟩ | ⟨k, e, h1, h2, _⟩
  · rw [e] at h; omega
  · exact ⟨k, e, h1, h2⟩
theorem pick_mid {q0 ql : Str × Tok} {mid : List (Str × Tok)} : (slicePick (strValues (q0 :: (mid ++ [ql]))).toArray (some 1) (some (-1)) none).toList = strValues mid := by
  have e : sliceBounds (some 1) (some (-1)) none (strValues (q0 :: (mid ++ [ql]))).toArray.size = (((1 : Nat) : Int), ((mid.length + 1 : Nat) : Int), 1) := by
    simp [strValues, sliceBounds]
    omega
  rw [kmk_pick_nat _ e]
  simp [strValues]
theorem rot2_in {h₀ h : Heap} {L : Addr} {tb rest : List (Addr × Obj)} {a b : Addr × Obj} (N : News h₀ L h (a :: b :: (tb ++ rest))) : News h₀ L h (tb ++ a :: b :: rest) := KStt.news_of N fun p hp => by
  simp only [List.mem_cons, List.mem_append] at hp ⊢
  grind
theorem rot2_out {h₀ h : Heap} {L : Addr} {tb rest : List (Addr × Obj)} {a b : Addr × Obj} (N : News h₀ L h (tb ++ a :: b :: rest)) : News h₀ L h (a :: b :: (tb ++ rest)) := KStt.news_of N fun p hp => by
  simp only [List.mem_cons, List.mem_append] at hp ⊢
  grind
example : True := by
  k_with "call builtin:len" => ((k_here; k_dflt (refine' PySem.P.len_str ?k1w36 ?_); (case k1w36 => omega)))
  trivial
theorem item_first {prog : Program} {w : World} {A : Around} {E : Value → Shared → Prop} {s : Shared} {h₀ : Heap} {L : Addr} {news : List (Addr × Obj)} {l : Addr} {q0 ql : Str × Tok} {mid : List (Str × Tok)} {c : Nat} {t : Tok} {value slice : PySem.Expr} {Q : Value → Shared → Prop} (N : News h₀ L s.heap news) (hm : (l, seqL (strValues (q0 :: (mid ++ [ql]))).toArray c) ∈ news) (hn : mid.length ≤ 1000) (h : Q (.str q0.1 q0.2) s)
    (hs : subscripted slice false (.ref l) (.int 0 t) = operate [.ref l, .int 0 t] (getItem (.ref l) (.int 0 t)) := by with_unfolding_all rfl) :
    wpAny (model prog w) A (subscriptTail value slice (.ref l) (.int 0 t)) Q E s :=
  item_strs (b := (q0 :: (mid ++ [ql])).map (·.1.length) |>.sum) N hm (by simp; omega) (j := 0) (.inl ⟨by decide, by simp; omega, rfl⟩) (fun q hq => le_sum_mem hq) (fun q hq _ => by simp at hq; subst hq; exact h) hs
theorem item_last {prog : Program} {w : World} {A : Around} {E : Value → Shared → Prop} {s : Shared} {h₀ : Heap} {L : Addr} {news : List (Addr × Obj)} {l : Addr} {q0 ql : Str × Tok} {mid : List (Str × Tok)} {c : Nat} {t : Tok} {value slice : PySem.Expr} {Q : Value → Shared → Prop} (N : News h₀ L s.heap news) (hm : (l, seqL (strValues (q0 :: (mid ++ [ql]))).toArray c) ∈ news) (hn : mid.length ≤ 1000) (h : Q (.str ql.1 ql.2) s)
    (hs : subscripted slice false (.ref l) (.int (-1) t) = operate [.ref l, .int (-1) t] (getItem (.ref l) (.int (-1) t)) := by with_unfolding_all rfl) :
    wpAny (model prog w) A (subscriptTail value slice (.ref l) (.int (-1) t)) Q E s :=
  item_strs (b := (q0 :: (mid ++ [ql])).map (·.1.length) |>.sum) N hm (by simp; omega) (j := mid.length + 1) (.inr ⟨by decide, by simp; omega, by simp; omega⟩) (fun q hq => le_sum_mem hq) (fun q hq _ => by simp at hq; subst hq; exact h) hs
end Lw
end
example : True := by k_with_none; w_top off; trivial
section
open PySem PySem.W PyProof.Rows
namespace Lw
example : True := by
  k_with_none
  k_with "omega" => ((fail_if_success (fail_if_success (omega (config := {})))); first | lia | omega (config := {}))
  k_with "callWith ref" => ((k_here; k_dflt (refine' callWith_K ?kAw90 ?kBw90 ?_; (case kAw90 => k_asm); (case kBw90 => k_is); k_whole)))
  k_with "eval Name" => ((k_here; (fail_if_success (with_reducible show wpAny _ _ (eval (Expr.Name _ _) (compEnvC _ _ _ _)) _ _ _)); k_dflt (first | (refine' nameX_L ?Fw91 ?vw91 ?_ ?aw91 ?bw91; (case bw91 => rfl); (case Fw91 => k_asm); (case aw91 => rfl); (case vw91 => rfl); k_whole) | (refine' nameX_C ?Nw92 ?cw92 ?mw92 ?dw92 ?_ ?aw92 ?bw92; (case bw92 => rfl); (case aw92 => rfl); (case Nw92 => k_asm); (case cw92 => rfl); (case mw92 => k_mem); (case dw92 => k_asm); k_whole) | (refine' nameX_K ?Fw93 ?Xw93 ?Tw93 ?ew93 ?_ ?aw93 ?bw93; (case bw93 => rfl); (case Fw93 => k_asm); (case Xw93 => k_asm); (case Tw93 => k_asm); (case aw93 => rfl); (case ew93 => k_is); k_whole) | (refine' nameX_B ?Fw94 ?Xw94 ?Tw94 ?ew94 ?vw94 ?nw94 ?_ ?aw94 ?bw94; (case bw94 => rfl); (case Fw94 => k_asm); (case Xw94 => k_asm); (case Tw94 => k_asm); (case aw94 => rfl); (case ew94 => k_is); (case vw94 => boot_fast); (case nw94 => decide); k_whole))))
  k_with "execs cons" => ((k_here; refine execs_G ?_; intro G9w hG9w))
  k_with "Go" => (((try dsimp only); first | (refine go_next_S (by with_reducible assumption) ?_; intro tSw) | refine go_ret (by with_reducible assumption) ?_ | refine go_cont (by with_reducible assumption) ?_ | refine go_brk (by with_reducible assumption) ?_))
  k_with "k_ne" => ((with_reducible first | assumption | exact Ne.symm (by assumption) | exact Nat.ne_of_lt (by assumption) | exact Ne.symm (Nat.ne_of_lt (by assumption)) | fail "k_ne"))
  k_with "ktr_room" => (first | exact room_a (by with_reducible assumption) rfl | exact room_b (by with_reducible assumption) rfl | exact room_c (by with_reducible assumption) rfl | fail "room")
  k_with "ktr_units" => (first | exact room_a (by with_reducible assumption) rfl | exact room_b (by with_reducible assumption) rfl | exact room_c (by with_reducible assumption) rfl | fail "room")
  k_with "k_room" => (ktr_room)
  k_with "k_all" => (first | with_reducible assumption | exact all_gt (by assumption) (by ((try dsimp only); omega)))
  k_with "k_mem" => (assumption)
  k_with "call builtin:len" => ((k_here; (with_reducible show wpAny _ _ (call (Value.builtin "len") [Value.str _ _]) _ _ _); k_dflt (refine' PySem.P.len_str ?k1w37 ?_; (case k1w37 => omega))))
  k_with "subscriptTail Name Constant ref int" => ((k_here; k_dflt (refine item_first (by k_asm) (by k_mem) (by omega) ?_)))
  k_with "subscriptTail Name UnaryOp ref int" => ((k_here; k_dflt (refine item_last (by k_asm) (by k_mem) (by omega) ?_)))
  trivial
theorem pick_size {q0 ql : Str × Tok} {mid : List (Str × Tok)} (h : mid.length ≤ 18) : (strValues (q0 :: (mid ++ [ql]))).toArray.size ≤ sizeLine := by
  rw [sizeLine_eq]
  simp [strValues]
  omega
example : True := by
  k_with "subscriptTail Name Slice ref ref" => ((k_here; k_dflt (refine' kmk_slice_lit ?Fw40 ?Nw40 ?lw40 ?pw40 ?qw40 pick_mid ?_ ?sw40 ?tw40 ?zw40; (case Fw40 => k_asm); (case Nw40 => k_asm); (case lw40 => exact News.isList (by k_asm) (by k_mem)); (case pw40 => exact IsPart.int _ _); (case qw40 => exact IsPart.int _ _); (case sw40 => with_unfolding_all rfl); (case tw40 => (intro _; with_unfolding_all rfl)); (case zw40 => exact pick_size (by assumption))); intro D'w h'w F'w N'w l1w))
  k_with "exec For Name Subscript cons nil" => ((k_here; k_dflt (refine For_S ?_)))
  k_with "exec While Compare cons nil" => ((k_here; k_dflt (refine While_S ?_)))
  trivial
theorem midGo_bound {y : Str} : ∀ {mid : List Str} {p q : Int}, midGo y p mid = .inr q → 0 ≤ p → p ≤ y.length → 0 ≤ q ∧ q ≤ y.length
  | [], p, q, h, h0, h1 => by
    simp only [midGo, Sum.inr.injEq] at h
    subst h
    exact ⟨h0, h1⟩
  | x :: mid, p, q, h, h0, h1 => by
    unfold midGo at h
    by_cases c : seekR y x p < 0
    · rw [if_pos c] at h; cases h
    · rw [if_neg c] at h
      obtain ⟨k, e, hk, ha⟩ := seek_at h0 c
      have := ha.1
      refine midGo_bound h (by omega) ?_
      rw [e]
      omega
inductive MidJ (Cx : Heap → Prop) (M : Addr) (m₀ : Str → Option Value) (rest : List (Addr × Obj)) (y : Str) (p0 : Str) (mid : List (Str × Tok)) (i : Nat) (h₀ : Heap) (m : Str → Option Value) (nx : List (Addr × Obj)) : Prop
  | mk (zz1 : Cx h₀) (tb : List (Addr × Obj)) (place : Int) (u : Tok) (uo : Str → Option Value) (zz2 : TabA tb) (zz3 : nx = (M, ({ cls := .type "list", data := .seq (strValues mid).toArray 0 } : Obj)) :: (tb ++ rest)) (zz4 : m = (fun z => if z = Str.ofString "place" then some (.int place u) else if [Str.ofString "piece", Str.ofString "found"].contains z then uo z else m₀ z)) (zz5 : midGo y p0.length ((mid.map (·.1)).take i) = .inr place) : MidJ Cx M m₀ rest y p0 mid i h₀ m nx
theorem mid_map0 {m₁ : Str → Option Value} {v : Value} : (fun z => if z = Str.ofString "place" then some v else m₁ z) = (fun z => if z = Str.ofString "place" then some v else if [Str.ofString "piece", Str.ofString "found"].contains z then (fun z => if z = Str.ofString "place" then some v else m₁ z) z else (fun z => if z = Str.ofString "place" then some v else m₁ z) z) := by
  funext z
  by_cases c : z = Str.ofString "place" <;> simp [c]
theorem strs_at {mid : List (Str × Tok)} {i : Nat} {v : Value} (h : (strValues mid).toArray[i]? = some v) : ∃ q, mid[i]? = some q ∧ v = .str q.1 q.2 := by
  simp only [strValues, List.getElem?_toArray, List.getElem?_map, Option.map_eq_some_iff] at h
  obtain ⟨q, h1, h2⟩ := h
  exact ⟨q, h1, h2.symm⟩
theorem ne104_2 {h₀ h : Heap} {L I M : Addr} {oI : Obj} {vs : Array Value} {n : Nat} {tb rest : List (Addr × Obj)} (ht : TabA tb) (hr : ∀ p ∈ rest, p.1 ≠ 104) (off : ∀ p ∈ (M, ({ cls := .type "list", data := .seq vs n } : Obj)) :: (tb ++ rest), p.1 ≠ I) (N : News h₀ L h ((I, oI) :: (M, ({ cls := .type "list", data := .seq vs n } : Obj)) :: (tb ++ rest))) :
    ∀ p ∈ (I, oI) :: (M, ({ cls := .type "list", data := .seq vs n } : Obj)) :: rest, p.1 ≠ 104 := fun p hp => by
  obtain ⟨o4, h4⟩ := ht.mem
  rcases List.mem_cons.mp hp with rfl | hp
  · exact Ne.symm (off (104, o4) (.tail _ (List.mem_append_left _ h4)))
  rcases List.mem_cons.mp hp with rfl | hp
  · exact Ne.symm (tab_ne ht (rot_in fun p hp => N p (.tail _ hp)) _ h4)
  · exact hr p hp
theorem tab_it {h₀ h : Heap} {L I : Addr} {oI : Obj} {tb : List (Addr × Obj)} {l : List (Addr × Obj)} (ht : TabA tb) (hs : ∀ p ∈ tb, p ∈ l) (N : News h₀ L h ((I, oI) :: l)) (hio : oI.cls = .type "list_iterator" ∧ ∃ a k, oI.data = .fields #[.ref a, .int k 0]) : ∀ p ∈ tb, p.1 ≠ I := fun p hp e => by
  have h1 := (N p (.tail _ (hs p hp))).1
  have h2 := (N (I, oI) (.head _)).1
  rw [e] at h1
  dsimp only at h2
  rw [h2] at h1
  obtain ⟨hc, a, k, hd⟩ := hio
  rcases ht with rfl | ⟨c, oc, ws, tq, rfl, hd2, hv⟩
  · rw [List.mem_singleton.mp hp] at h1
    cases h1
    cases hc
  · rcases List.mem_cons.mp hp with rfl | hp
    · cases h1
      rw [hd] at hd2
      cases hd2
      simp at hv
    · rw [List.mem_singleton.mp hp] at h1
      cases h1
      cases hc
theorem mid_map {m₁ uo : Str → Option Value} {a b c d : Option Value} : (fun z => if z = Str.ofString "place" then a else if z = Str.ofString "found" then b else if z = Str.ofString "piece" then c else if z = Str.ofString "place" then d else if [Str.ofString "piece", Str.ofString "found"].contains z then uo z else m₁ z) =
    (fun z => if z = Str.ofString "place" then a else if [Str.ofString "piece", Str.ofString "found"].contains z then (fun z => if z = Str.ofString "found" then b else if z = Str.ofString "piece" then c else uo z) z else m₁ z) := by
  funext z
  by_cases c1 : z = Str.ofString "place"
  · rw [if_pos c1, if_pos c1]
  · rw [if_neg c1, if_neg c1]
    by_cases c2 : z = Str.ofString "found"
    · subst c2
      simp [c1]
    · by_cases c3 : z = Str.ofString "piece"
      · subst c3
        simp [c1, c2]
      · simp [c1, c2, c3]
theorem turn_ret {L I : Addr} {oI : Obj} {J : Heap → (Str → Option Value) → List (Addr × Obj) → Prop} {Q : Flow → Shared → Prop} {s s₃ : Shared} {v : Value} (h : Q (.ret v) s₃) : TurnPost L I oI J Q s (.ret v) s₃ := h
theorem ne_false {x y : Str} (h : (x != y) = false) : x = y := by simpa using h
theorem eq_true' {x y : Str} (h : (x == y) = true) : x = y := by simpa using h
theorem ne_of_beq {x y : Str} (h : (x == y) = false) : x ≠ y := by simpa using h
theorem ne_true {x y : Str} (h : (x != y) = true) : x ≠ y := by simpa using h
open PySem.StrLaws in
theorem seekR_bd {x y : Str} {i : Int} (h0 : 0 ≤ i) : -1 ≤ seekR x y i ∧ seekR x y i ≤ x.length := by
  rw [seek_ge h0]
  rcases seek_spec x y i h0 with ⟨e, _⟩ | ⟨k, e, h1, h2, _⟩
  · omega
  · have := h2.1
    omega
open PySem.StrLaws in
inductive ChJ (Cx : Heap → Prop) (L : Addr) (m₁ : Str → Option Value) (rest : List (Addr × Obj)) (y pl : Str) (place : Int) (s : Shared) (k : Nat) (s' : Shared) : Prop
  | mk (g h : Heap) (tk : Nat) (tb : List (Addr × Obj)) (far : Nat) (uf uu : Tok) (zz1 : s' = { s with heap := h, toks := tk }) (zz2 : Cx g) (zz3 : TabA tb) (zz4 : Fr g L h (fun z => if z = Str.ofString "further" then some (.int (seekR y pl ((far : Int) + 1)) uf) else if z = Str.ofString "far" then some (.int (far : Int) uu) else m₁ z)) (zz5 : News g L h (tb ++ rest)) (zz6 : place ≤ far) (zz7 : At y pl y.length far) (zz8 : k = y.length + 1 - far) : ChJ Cx L m₁ rest y pl place s k s'
open PySem.StrLaws in
theorem ChJ.intro {Cx : Heap → Prop} {L : Addr} {m₁ m' : Str → Option Value} {rest tb : List (Addr × Obj)} {y pl : Str} {place : Int} {s : Shared} {k : Nat} {g h : Heap} {tk : Nat} {far : Nat} {uf uu : Tok} (hc : Cx g) (ht : TabA tb)
    (F : Fr g L h (fun z => if z = Str.ofString "further" then some (.int (seekR y pl ((far : Int) + 1)) uf) else if z = Str.ofString "far" then some (.int (far : Int) uu) else m' z)) (hm : ∀ z, z ≠ Str.ofString "further" → z ≠ Str.ofString "far" → m' z = m₁ z) (N : News g L h (tb ++ rest)) (h1 : place ≤ far) (h2 : At y pl y.length far) (hk : k = y.length + 1 - far) :
    ChJ Cx L m₁ rest y pl place s k { s with heap := h, toks := tk } := by
  have e : (fun z => if z = Str.ofString "further" then some (.int (seekR y pl ((far : Int) + 1)) uf) else if z = Str.ofString "far" then some (.int (far : Int) uu) else m' z) = (fun z => if z = Str.ofString "further" then some (.int (seekR y pl ((far : Int) + 1)) uf) else if z = Str.ofString "far" then some (.int (far : Int) uu) else m₁ z) := by
    funext z
    by_cases c1 : z = Str.ofString "further"
    · rw [if_pos c1, if_pos c1]
    · rw [if_neg c1, if_neg c1]
      by_cases c2 : z = Str.ofString "far"
      · rw [if_pos c2, if_pos c2]
      · rw [if_neg c2, if_neg c2]
        exact hm z c1 c2
  rw [e] at F
  exact ⟨g, h, tk, tb, far, uf, uu, rfl, hc, ht, F, N, h1, h2, hk⟩
section
variable {tb rest : List (Addr × Obj)} {q0 ql : Str × Tok} {mid : List (Str × Tok)} {y : Str} {u : Tok} {r place : Int}
theorem rout_a (ht : TabA tb) (h : Txt.slice y none (some q0.1.length) ≠ q0.1) : ReachOut rest ((q0 :: (mid ++ [ql])).map (·.1)) y (.int (-1) u) (tb ++ rest) := ⟨_, _, _, ht, rfl, ⟨q0.1, mid.map (·.1), ql.1, by simp, .inl ⟨h, rfl⟩⟩, rfl⟩
theorem rout_b (ht : TabA tb) (h : Txt.slice y none (some q0.1.length) = q0.1) (hm : midGo y q0.1.length (mid.map (·.1)) = .inl r) : ReachOut rest ((q0 :: (mid ++ [ql])).map (·.1)) y (.int r u) (tb ++ rest) := ⟨_, _, _, ht, rfl, ⟨q0.1, mid.map (·.1), ql.1, by simp, .inr ⟨h, .inl hm⟩⟩, rfl⟩
theorem rout_c (ht : TabA tb) (h : Txt.slice y none (some q0.1.length) = q0.1) (hm : midGo y q0.1.length (mid.map (·.1)) = .inr place) (hs : seekR y ql.1 place < 0) : ReachOut rest ((q0 :: (mid ++ [ql])).map (·.1)) y (.int (seekR y ql.1 place) u) (tb ++ rest) :=
  ⟨_, _, _, ht, rfl, ⟨q0.1, mid.map (·.1), ql.1, by simp, .inr ⟨h, .inr ⟨place, hm, .inl ⟨hs, rfl⟩⟩⟩⟩, rfl⟩
theorem rout_d (ht : TabA tb) (h : Txt.slice y none (some q0.1.length) = q0.1) (hm : midGo y q0.1.length (mid.map (·.1)) = .inr place) (hs : 0 ≤ seekR y ql.1 place) (he : ql.1 = Str.ofString "") : ReachOut rest ((q0 :: (mid ++ [ql])).map (·.1)) y (.int y.length u) (tb ++ rest) :=
  ⟨_, _, _, ht, rfl, ⟨q0.1, mid.map (·.1), ql.1, by simp, .inr ⟨h, .inr ⟨place, hm, .inr (.inl ⟨hs, he, rfl⟩)⟩⟩⟩, rfl⟩
open PySem.StrLaws in
theorem rout_e (ht : TabA tb) (h : Txt.slice y none (some q0.1.length) = q0.1) (hm : midGo y q0.1.length (mid.map (·.1)) = .inr place) (hne : ql.1 ≠ Str.ofString "") {far : Nat} (h1 : place ≤ far) (h2 : At y ql.1 y.length far) (h3 : ∀ k : Nat, far < k → ¬ At y ql.1 y.length k) : ReachOut rest ((q0 :: (mid ++ [ql])).map (·.1)) y (.int ((far : Int) + ql.1.length) u) (tb ++ rest) :=
  ⟨_, _, _, ht, rfl, ⟨q0.1, mid.map (·.1), ql.1, by simp, .inr ⟨h, .inr ⟨place, hm, .inr (.inr ⟨hne, far, h1, h2, h3, rfl⟩)⟩⟩⟩, rfl⟩
end
namespace Rc
noncomputable def S0 (prog : Program) (w : World) (tb rest : List (Addr × Obj)) (la : Addr) (c₀ : Nat) (q0 ql : Str × Tok) (mid : List (Str × Tok)) (y : Str) (t : Tok) (p : Program) (loose : List Str) (mean : ExcName → Option Value) (mg : Str → Option Value) (mb : Str → Option Value) (dp : Nat) (un : Nat) (gd : Option (List Code)) (env : Env) (A₀ : Around) (base : Heap) (h₀ : Heap) (L : Addr) (m : Str → Option Value) (s : Shared) (Q : Value → Shared → Prop) (E : Value → Shared → Prop) : Prop :=
  TabA tb → (la, ({ cls := .type "list", data := .seq (strValues (q0 :: (mid ++ [ql]))).toArray c₀ } : Obj)) ∈ rest → mid.length ≤ 18 → q0.1.length ≤ 100 → ql.1.length ≤ 100 → (∀ q ∈ mid, q.1.length ≤ 100) → reprText ql.1 = Str.ofString "'" ++ ql.1 ++ Str.ofString "'" → (∀ q ∈ mid, reprText q.1 = Str.ofString "'" ++ q.1 ++ Str.ofString "'") → y.length ≤ 300 → (∀ p ∈ rest, p.1 ≠ 104) →
  ComesTv prog w 40 600 137 (tb ++ rest) [.ref la, .str y t] (ReachOut rest ((q0 :: (mid ++ [ql])).map (·.1)) y) p loose mean mg mb dp un gd env A₀ base h₀ L m s Q E
noncomputable def P0 (x : Program × World × (List (Addr × Obj)) × (List (Addr × Obj)) × Addr × Nat × (Str × Tok) × (Str × Tok) × (List (Str × Tok)) × Str × Tok × Program × List Str × (ExcName → Option Value) × (Str → Option Value) × (Str → Option Value) × Nat × Nat × Option (List Code) × Env × Around × Heap × Heap × Addr × (Str → Option Value) × Shared × (Value → Shared → Prop) × (Value → Shared → Prop)) : Prop := S0 x.1 x.2.1 x.2.2.1 x.2.2.2.1 x.2.2.2.2.1 x.2.2.2.2.2.1 x.2.2.2.2.2.2.1 x.2.2.2.2.2.2.2.1 x.2.2.2.2.2.2.2.2.1 x.2.2.2.2.2.2.2.2.2.1 x.2.2.2.2.2.2.2.2.2.2.1 x.2.2.2.2.2.2.2.2.2.2.2.1 x.2.2.2.2.2.2.2.2.2.2.2.2.1 x.2.2.2.2.2.2.2.2.2.2.2.2.2.1 x.2.2.2.2.2.2.2.2.2.2.2.2.2.2.1 x.2.2.2.2.2.2.2.2.2.2.2.2.2.2.2.1 x.2.2.2.2.2.2.2.2.2.2.2.2.2.2.2.2.1 x.2.2.2.2.2.2.2.2.2.2.2.2.2.2.2.2.2.1 x.2.2.2.2.2.2.2.2.2.2.2.2.2.2.2.2.2.2.1 x.2.2.2.2.2.2.2.2.2.2.2.2.2.2.2.2.2.2.2.1 x.2.2.2.2.2.2.2.2.2.2.2.2.2.2.2.2.2.2.2.2.1 x.2.2.2.2.2.2.2.2.2.2.2.2.2.2.2.2.2.2.2.2.2.1 x.2.2.2.2.2.2.2.2.2.2.2.2.2.2.2.2.2.2.2.2.2.2.1 x.2.2.2.2.2.2.2.2.2.2.2.2.2.2.2.2.2.2.2.2.2.2.2.1 x.2.2.2.2.2.2.2.2.2.2.2.2.2.2.2.2.2.2.2.2.2.2.2.2.1 x.2.2.2.2.2.2.2.2.2.2.2.2.2.2.2.2.2.2.2.2.2.2.2.2.2.1 x.2.2.2.2.2.2.2.2.2.2.2.2.2.2.2.2.2.2.2.2.2.2.2.2.2.2.1 x.2.2.2.2.2.2.2.2.2.2.2.2.2.2.2.2.2.2.2.2.2.2.2.2.2.2.2
noncomputable def k0 : Program × World × (List (Addr × Obj)) × (List (Addr × Obj)) × Addr × Nat × (Str × Tok) × (Str × Tok) × (List (Str × Tok)) × Str × Tok × Program × List Str × (ExcName → Option Value) × (Str → Option Value) × (Str → Option Value) × Nat × Nat × Option (List Code) × Env × Around × Heap × Heap × Addr × (Str → Option Value) × Shared × (Value → Shared → Prop) × (Value → Shared → Prop) := henk (qv, aWorld 1, [], [], 0, 0, default, default, [], default, default, qv, [], fun _ => none, fun _ => none, fun _ => none, 0, 0, none, default, hen_a, default, default, 0, fun _ => none, hen_s, fun _ _ => True, fun _ _ => True) P0
@[irreducible] noncomputable def prog : Program := k0.1
@[irreducible] noncomputable def w : World := k0.2.1
@[irreducible] noncomputable def tb : List (Addr × Obj) := k0.2.2.1
@[irreducible] noncomputable def rest : List (Addr × Obj) := k0.2.2.2.1
@[irreducible] noncomputable def la : Addr := k0.2.2.2.2.1
@[irreducible] noncomputable def c₀ : Nat := k0.2.2.2.2.2.1
@[irreducible] noncomputable def q0 : Str × Tok := k0.2.2.2.2.2.2.1
@[irreducible] noncomputable def ql : Str × Tok := k0.2.2.2.2.2.2.2.1
@[irreducible] noncomputable def mid : List (Str × Tok) := k0.2.2.2.2.2.2.2.2.1
@[irreducible] noncomputable def y : Str := k0.2.2.2.2.2.2.2.2.2.1
@[irreducible] noncomputable def t : Tok := k0.2.2.2.2.2.2.2.2.2.2.1
@[irreducible] noncomputable def p : Program := k0.2.2.2.2.2.2.2.2.2.2.2.1
@[irreducible] noncomputable def loose : List Str := k0.2.2.2.2.2.2.2.2.2.2.2.2.1
@[irreducible] noncomputable def mean : ExcName → Option Value := k0.2.2.2.2.2.2.2.2.2.2.2.2.2.1
@[irreducible] noncomputable def mg : Str → Option Value := k0.2.2.2.2.2.2.2.2.2.2.2.2.2.2.1
@[irreducible] noncomputable def mb : Str → Option Value := k0.2.2.2.2.2.2.2.2.2.2.2.2.2.2.2.1
@[irreducible] noncomputable def dp : Nat := k0.2.2.2.2.2.2.2.2.2.2.2.2.2.2.2.2.1
@[irreducible] noncomputable def un : Nat := k0.2.2.2.2.2.2.2.2.2.2.2.2.2.2.2.2.2.1
@[irreducible] noncomputable def gd : Option (List Code) := k0.2.2.2.2.2.2.2.2.2.2.2.2.2.2.2.2.2.2.1
@[irreducible] noncomputable def env : Env := k0.2.2.2.2.2.2.2.2.2.2.2.2.2.2.2.2.2.2.2.1
@[irreducible] noncomputable def A₀ : Around := k0.2.2.2.2.2.2.2.2.2.2.2.2.2.2.2.2.2.2.2.2.1
@[irreducible] noncomputable def base : Heap := k0.2.2.2.2.2.2.2.2.2.2.2.2.2.2.2.2.2.2.2.2.2.1
@[irreducible] noncomputable def h₀ : Heap := k0.2.2.2.2.2.2.2.2.2.2.2.2.2.2.2.2.2.2.2.2.2.2.1
@[irreducible] noncomputable def L : Addr := k0.2.2.2.2.2.2.2.2.2.2.2.2.2.2.2.2.2.2.2.2.2.2.2.1
@[irreducible] noncomputable def m : Str → Option Value := k0.2.2.2.2.2.2.2.2.2.2.2.2.2.2.2.2.2.2.2.2.2.2.2.2.1
@[irreducible] noncomputable def s : Shared := k0.2.2.2.2.2.2.2.2.2.2.2.2.2.2.2.2.2.2.2.2.2.2.2.2.2.1
@[irreducible] noncomputable def Q : Value → Shared → Prop := k0.2.2.2.2.2.2.2.2.2.2.2.2.2.2.2.2.2.2.2.2.2.2.2.2.2.2.1
@[irreducible] noncomputable def E : Value → Shared → Prop := k0.2.2.2.2.2.2.2.2.2.2.2.2.2.2.2.2.2.2.2.2.2.2.2.2.2.2.2
theorem main : S0 prog w tb rest la c₀ q0 ql mid y t p loose mean mg mb dp un gd env A₀ base h₀ L m s Q E := by
  unfold S0 ComesTv
  intro ht hm h8 hl0 hll hlm hrl hrp hy hr B F X N T XB TB C1 C2 hf hk hd hu hret
  refine wpAny_call ?_
  refine' enter_top ?k1 ?k2 ?k3 ?k4 ?k5 ?kA ?kF ?kE ?k6 ?k7 ?k8 ?k9 ?kB ?_ ?c2 ?c3 ?c4 ?c5; (case kA => exact rfl); (case kF => assumption); (case kE => assumption); (case k2 => k_asm); (case k1 => k_asm); (case k3 => k_asm); (case k4 => k_asm); (case k5 => k_asm); (case k6 => k_is); (case k7 => k_is); (case k8 => k_room); (case k9 => exact BindsTo.of_eq rfl); (case kB => exact locs rfl); (case c2 => exact rfl); (case c3 => exact rfl); (case c4 => exact rfl); (case c5 => decide); k_whole; intro g' L' h' FG' F' N' B' X' T' D'; (try dsimp only); (try k_lift B'); (try k_fold)
  have hmA : (la, ({ cls := .type "list", data := .seq (strValues (q0 :: (mid ++ [ql]))).toArray c₀ } : Obj)) ∈ tb ++ rest := List.mem_append_right _ hm
  k_steps
  · (with_reducible rename Fr _ _ _ _ => F6; with_reducible rename News _ _ _ _ => N6)
    exact hret _ _ _ _ (rout_a ht (ne_true (by assumption))) F6 N6
  show wpAny _ _ _ _ _ _
  k_steps
  (with_reducible rename Fr _ _ _ _ => F1; with_reducible rename News _ _ _ _ => N1)
  have hMl : ∀ p ∈ tb ++ rest, p.1 < nwHead N1 := by assumption
  refine wpAny_pyIter_list (News.isList N1 (.head _)) ?_
  have hst0 : Txt.slice y none (some q0.1.length) = q0.1 := ne_false (by assumption)
  have hp0 : q0.1.length ≤ y.length := by
    have h9 := Txt.slice_le y none (some q0.1.length)
    rw [hst0] at h9
    exact h9
  refine for_led (L := frL F1) (MidJ (fun g => Below _ base [env] g ∧ (_root_.hd.heap_1 w.params).In g ∧ Top p loose mean mg mb g ∧ KtsDicts ([env].filterMap (·.frame)) g ∧ KtsTurn ([env].filterMap (·.frame)) (frBase F1) g) (nwHead N1) (frMap F1) rest y q0.1 mid)
    (Walks.list (by rfl) _ (nwHead N1) (Nat.ne_of_lt (Heap.lt_size (N1 _ (.head _)).1)) (strValues mid).toArray) (fun o => o.cls = .type "list_iterator" ∧ ∃ a k, o.data = .fields #[.ref a, .int k 0]) (fun i h st => by obtain ⟨o, e, e2, e3⟩ := st.1; exact ⟨o, e, e2, _, _, e3⟩) ?hSt (fun _ => rfl) ?turn ?done (F1.keeps fun _ _ e => Heap.get?_push_of_some _ e) (N1.grown fun _ _ e => Heap.get?_push_of_some _ e) (Ne.symm (Nat.ne_of_lt F1.ns.lt)) (next_is_new F1) (fun p hp => Nat.ne_of_lt (Heap.lt_size (N1 p hp).1)) ⟨⟨_, Heap.get?_push_size _ rfl, rfl, rfl⟩, (News.isList N1 (.head _)).push _⟩ ⟨⟨B', X', T', D', KtsTurn.refl⟩, tb, _, _, frMap F1, ht, rfl, mid_map0, rfl⟩
  case hSt =>
    intro i j h h' o h₀ m nx st e e' F2 N2 hj
    refine hideG ?_
    intro b9 hb9
    rcases hj with ⟨_, tb2, place, u, uo, _, rfl, _, _⟩
    refine hb9 ?_
    clear hb9 b9
    exact LCg.list_st i h h' o _ st e e' F2.keep N2 (.inr ⟨_, .head _, rfl, _, rfl⟩)
  case turn =>
    intro i v oI h₀2 m2 nx2 h2' tk2 E2 hi hv hio F2 N2 off2 hj
    refine hideG ?_
    intro b9 hb9
    rcases hj with ⟨⟨B2, X2, TP2, D2, T2⟩, tb2, place, u2, uo, tA2, rfl, rfl, hmg⟩
    refine hb9 ?_
    clear hb9 b9
    dsimp only [frL, nwHead, frBase, frMap] at F2 N2 off2 T2 ⊢
    obtain ⟨q, hq, rfl⟩ := strs_at hv
    have hqm := List.mem_of_getElem? hq
    have hql := hlm q hqm
    have hqr := hrp q hqm
    have hpb := midGo_bound hmg (by omega) (by omega)
    have hrX := ne104_2 tA2 hr off2 N2
    clear hMl N1 F1
    (k_with "call ref" => ((with_reducible show wpAny _ _ (call (Value.ref 116) [_, _, _]) _ _ _); k_here; k_dflt (refine' ComesS.use (seek_call _ _ _ _ _ _ _ _ _ _ ?uht ?uhx ?uhy ?uh0 ?uhi ?uhr hrX) ?uB ?uF ?uX ?uN ?uT ?uXB ?uTB ?uC1 ?uC2 ?uD ?uhk ?uhd ?uhu ?_; (case uht => assumption); (case uB => k_asm); (case uF => k_asm); (case uX => k_asm); (case uT => k_asm); (case uXB => assumption); (case uTB => assumption); (case uN => exact rot2_in (by k_asm)); (case uC1 => assumption); (case uC2 => assumption); (case uD => assumption); (case uhk => exact rfl); (case uhd => ktr_room); (case uhu => ktr_units); (case uhx => omega); (case uhy => omega); (case uh0 => omega); (case uhi => omega); (case uhr => assumption)); intro v' nw' h' tk' h₀' P' T' F' N' B' X' TT' D'; (obtain ⟨tb', u', ht', hv', hn'⟩ := SeekOut.ex P'); subst hv'; subst hn'; (have N' := rot2_out N')))
    k_steps
    · refine turn_ret ?_
      (try dsimp only)
      k_steps
      (with_reducible rename Fr _ _ _ _ => F6; with_reducible rename News _ _ _ _ => N6; with_reducible rename TabA _ => t6; with_reducible rename KtsTurn _ _ _ => T6)
      refine leaveS0_ F6 N6 (T2.trans T6) fun kF kN => ?_
      exact hret _ _ _ _ (rout_b t6 hst0 (midGo_stop hmg (by simp [hq]) (by with_reducible assumption))) kF (KStt.news_of kN fun p hp => .tail _ (.tail _ hp))
    · (with_reducible rename Fr _ _ _ _ => F6; with_reducible rename News _ _ _ _ => N6; with_reducible rename TabA _ => t6; with_reducible rename Below _ _ _ _ => B6; with_reducible rename KtsTurn _ _ _ => T6; with_reducible rename KtsDicts _ _ => D6; with_reducible rename Frag.In _ _ => X6; with_reducible rename Top _ _ _ _ _ _ => TP6)
      rw [mid_map] at F6
      exact Back.intro F6 N6 (fun p hp => hp) (fun p hp => by
        rcases List.mem_cons.mp hp with rfl | hp
        · exact off2 _ (.head _)
        · rcases List.mem_append.mp hp with hp | hp
          · exact tab_it t6 (fun p hp => .tail _ (List.mem_append_left _ hp)) N6 hio p hp
          · exact off2 _ (.tail _ (List.mem_append_right _ hp))) ⟨⟨B6, X6, TP6, D6, T2.trans T6⟩, _, _, _, _, t6, rfl, rfl, midGo_step hmg (by simp [hq]) (by with_reducible assumption)⟩
  case done =>
    intro h₀2 m2 nx2 h2' tk2 F2 N2 hj
    refine hideG ?_
    intro b9 hb9
    rcases hj with ⟨⟨B2, X2, TP2, D2, T2⟩, tb2, place, u2, uo, tA2, rfl, rfl, hmg⟩
    refine hb9 ?_
    clear hb9 b9
    dsimp only [frL, nwHead, frBase, frMap] at F2 N2 T2 ⊢
    rw [List.take_of_length_le (by simp [strValues])] at hmg
    have hpb := midGo_bound hmg (by omega) (by omega)
    have N3 : News _ _ h2' (tb2 ++ rest) := fun p hp => N2 p (.tail _ hp)
    have hmA2 : (la, ({ cls := .type "list", data := .seq (strValues (q0 :: (mid ++ [ql]))).toArray c₀ } : Obj)) ∈ tb2 ++ rest := List.mem_append_right _ hm
    have hsk := seekR_bd (x := y) (y := ql.1) hpb.1
    clear hMl N1 F1 N2
    (k_with "call ref" => ((with_reducible show wpAny _ _ (call (Value.ref 116) [_, _, _]) _ _ _); k_here; k_dflt (refine' ComesS.use (seek_call _ _ _ _ _ _ _ _ _ _ ?uht ?uhx ?uhy ?uh0 ?uhi ?uhr hr) ?uB ?uF ?uX ?uN ?uT ?uXB ?uTB ?uC1 ?uC2 ?uD ?uhk ?uhd ?uhu ?_; (case uht => assumption); (case uB => k_asm); (case uF => k_asm); (case uX => k_asm); (case uT => k_asm); (case uXB => assumption); (case uTB => assumption); (case uN => exact (by k_asm)); (case uC1 => assumption); (case uC2 => assumption); (case uD => assumption); (case uhk => exact rfl); (case uhd => ktr_room); (case uhu => ktr_units); (case uhx => omega); (case uhy => omega); (case uh0 => omega); (case uhi => omega); (case uhr => assumption)); intro v' nw' h' tk' h₀' P' T' F' N' B' X' TT' D'; (obtain ⟨tb', u', ht', hv', hn'⟩ := SeekOut.ex P'); subst hv'; subst hn'))
    k_steps
    · (try dsimp only)
      k_steps
      (with_reducible rename Fr _ _ _ _ => F6; with_reducible rename News _ _ _ _ => N6; with_reducible rename TabA _ => t6; with_reducible rename KtsTurn _ _ _ => T6)
      refine leaveS0_ F6 N6 (T2.trans T6) fun kF kN => ?_
      exact hret _ _ _ _ (rout_c t6 hst0 hmg (by with_reducible assumption)) kF kN
    · (with_reducible rename Fr _ _ _ _ => F6; with_reducible rename News _ _ _ _ => N6; with_reducible rename TabA _ => t6; with_reducible rename KtsTurn _ _ _ => T6)
      refine leaveS0_ F6 N6 (T2.trans T6) fun kF kN => ?_
      exact hret _ _ _ _ (rout_d t6 hst0 hmg (by omega) (eq_true' (by assumption))) kF kN
    · show WhlRest _ _ _ _ _ _ _ _ _ _ _
      have hne : ql.1 ≠ Str.ofString "" := ne_of_beq (by assumption)
      refine hideG ?_
      intro b9 hb9
      rcases seek_at (y := y) (p := ql.1) hpb.1 (by assumption) with ⟨far0, e0, hf0, ha0⟩
      refine hb9 ?_
      clear hb9 b9
      (with_reducible rename Fr _ _ _ _ => F1; with_reducible rename News _ _ _ _ => N1; with_reducible rename Below _ _ _ _ => B1; with_reducible rename KtsTurn _ _ _ => T1; with_reducible rename KtsDicts _ _ => D1; with_reducible rename Frag.In _ _ => X1; with_reducible rename Top _ _ _ _ _ _ => TP1; with_reducible rename TabA _ => tA1)
      rw [e0] at F1
      revert T1
      with_reducible rename KtsTurn _ _ _ => T0
      intro T1
      refine while_ind (ChJ (fun g => Below _ base [env] g ∧ (_root_.hd.heap_1 w.params).In g ∧ Top p loose mean mg mb g ∧ KtsDicts ([env].filterMap (·.frame)) g ∧ KtsTurn ([env].filterMap (·.frame)) (ktBase T2) g) (frL F1) (frMap F1) rest y ql.1 place s) (by passes_own) ?_ _ _ (ChJ.intro ⟨B1, X1, TP1, D1, (T2.trans T0).trans T1⟩ tA1 F1 (fun z h1 h2 => by simp only [frMap, if_neg h1, if_neg h2]) N1 hf0 ha0 rfl)
      intro n s1 hj
      refine hideG ?_
      intro b9 hb9
      rcases hj with ⟨g, h, tk, tb3, far, uf, uu, rfl, ⟨B3, X3, TP3, D3, T3⟩, tA3, F3, N3, hpf, hat, rfl⟩
      refine hb9 ?_
      clear hb9 b9
      dsimp only [frL, frMap, ktBase] at F3 N3 T3 ⊢
      clear N1 F1 B1 X1 TP1 D1 tA1 T1 T0
      have hal := hat.1
      rcases seek_spec y ql.1 ((far : Int) + 1) (by omega) with ⟨e, hno⟩ | ⟨k, e, hk1, hk2, _⟩
      · rw [seek_ge (by omega), e] at F3
        k_steps
        (with_reducible rename Fr _ _ _ _ => F6; with_reducible rename News _ _ _ _ => N6; with_reducible rename TabA _ => t6)
        exact hret _ _ _ _ (rout_e t6 hst0 hmg hne hpf hat fun k hk => hno k (by omega)) F6 N6
      · have hkl := hk2.1
        rw [seek_ge (by omega), e] at F3
        (k_with "call ref" => ((with_reducible show wpAny _ _ (call (Value.ref 116) [_, _, _]) _ _ _); k_here; k_dflt (refine' ComesS.use (seek_call _ _ _ _ _ _ _ _ _ _ ?uht ?uhx ?uhy ?uh0 ?uhi ?uhr hr) ?uB ?uF ?uX ?uN ?uT ?uXB ?uTB ?uC1 ?uC2 ?uD ?uhk ?uhd ?uhu ?_; (case uht => assumption); (case uB => k_asm); (case uF => k_asm); (case uX => k_asm); (case uT => k_asm); (case uXB => assumption); (case uTB => assumption); (case uN => exact (by k_asm)); (case uC1 => assumption); (case uC2 => assumption); (case uD => assumption); (case uhk => exact rfl); (case uhd => ktr_room); (case uhu => ktr_units); (case uhx => omega); (case uhy => omega); (case uh0 => omega); (case uhi => omega); (case uhr => assumption)); intro v' nw' h' tk' h₀' P' T' F' N' B' X' TT' D'; (obtain ⟨tb', u', ht', hv', hn'⟩ := SeekOut.ex P'); subst hv'; subst hn'))
        k_steps
        (with_reducible rename Fr _ _ _ _ => F6; with_reducible rename News _ _ _ _ => N6; with_reducible rename TabA _ => t6; with_reducible rename Below _ _ _ _ => B6; with_reducible rename KtsTurn _ _ _ => T6; with_reducible rename KtsDicts _ _ => D6; with_reducible rename Frag.In _ _ => X6; with_reducible rename Top _ _ _ _ _ _ => TP6)
        exact ⟨_, by omega, ChJ.intro ⟨B6, X6, TP6, D6, T3.trans T6⟩ t6 F6 (fun z h1 h2 => by simp only [if_neg h1, if_neg h2]) N6 (by omega) hk2 rfl⟩
end Rc
theorem reach_call (prog : Program) (w : World) (tb rest : List (Addr × Obj)) (la : Addr) (c₀ : Nat) (q0 ql : Str × Tok) (mid : List (Str × Tok)) (y : Str) (t : Tok) (ht : TabA tb) (hm : (la, ({ cls := .type "list", data := .seq (strValues (q0 :: (mid ++ [ql]))).toArray c₀ } : Obj)) ∈ rest) (h8 : mid.length ≤ 18) (hl0 : q0.1.length ≤ 100) (hll : ql.1.length ≤ 100) (hlm : ∀ q ∈ mid, q.1.length ≤ 100) (hrl : reprText ql.1 = Str.ofString "'" ++ ql.1 ++ Str.ofString "'") (hrp : ∀ q ∈ mid, reprText q.1 = Str.ofString "'" ++ q.1 ++ Str.ofString "'") (hy : y.length ≤ 300) (hr : ∀ p ∈ rest, p.1 ≠ 104) :
    ComesT prog w 40 600 137 (tb ++ rest) [.ref la, .str y t] (ReachOut rest ((q0 :: (mid ++ [ql])).map (·.1)) y) := fun p loose mean mg mb dp un gd env A₀ base h₀ L m s Q E => henk_all (P := Rc.P0) (by with_unfolding_all exact Rc.main) (prog, w, tb, rest, la, c₀, q0, ql, mid, y, t, p, loose, mean, mg, mb, dp, un, gd, env, A₀, base, h₀, L, m, s, Q, E) ht hm h8 hl0 hll hlm hrl hrp hy hr
end Lw
end
example : True := by k_with_none; w_top off; trivial
section
open PySem PySem.W PyProof.Rows
namespace Lw
example : True := by
  k_with_none
  k_with "omega" => ((fail_if_success (fail_if_success (omega (config := {})))); first | lia | omega (config := {}))
  trivial
open PySem.Calls
noncomputable def TurnV (prog : Program) (w : World) (A : Around) (h₀ : Heap) (L : Addr) (m : Str → Option Value) (env : Env) (elt : PySem.Expr) (x : Str) (scope : Scope) (cl : List (Str × Addr)) (s : Shared) (IO : Obj → Prop) (P : Nat → Value → Prop) (n : Nat)
    {X : Type} (led : Nat → X → List (Addr × Obj)) (res : Nat → X → List Value) (ok : Nat → X → Prop) : Prop :=
  ∀ i (d : X) v I oI C oC D m₂ h tk (E' G : Value → Shared → Prop), i < n → ok i d → P i v → IO oI → LCg.NsObj oC m₂ → m₂ x = some v → Fr h₀ L h m → News h₀ L h ((I, oI) :: (C, oC) :: (D, LCg.lst (res i d)) :: led i d) → LCg.Off3 I C D (led i d) → ((@Ne Nat I C) ∧ (@Ne Nat I D) ∧ (@Ne Nat C D)) →
    (∀ y d₂ h' tk', ok (i + 1) d₂ → res (i + 1) d₂ = res i d ++ [y] → Fr h₀ L h' m → News h₀ L h' ((I, oI) :: (C, oC) :: (D, LCg.lst (res i d)) :: led (i + 1) d₂) → LCg.Off3 I C D (led (i + 1) d₂) → G y { s with heap := h', toks := tk' }) →
    wpAny (model prog w) A (eval elt (compEnvC scope cl C env)) G E' { s with heap := h, toks := tk }
section
variable {prog : Program} {w : World} {A : Around} {E : Value → Shared → Prop} {s : Shared} {h₀ : Heap} {L : Addr} {m : Str → Option Value} {env : Env}
inductive BlkAt {X : Type} (h₀ : Heap) (I L C D : Addr) (n : Nat) (led : Nat → X → List (Addr × Obj)) (res : Nat → X → List Value) (ok : Nat → X → Prop) (St : Nat → Heap → Prop) (m : Str → Option Value) (s₂ : Shared) (k : Nat) (s' : Shared) : Prop
  | mk (h' : Heap) (tk : Tok) (i : Nat) (d : X) (m' : Str → Option Value) (e1 : s' = { s₂ with heap := h', toks := tk }) (e2 : i ≤ n) (e3 : k = n + 1 - i) (e4 : (res i d).length = i) (e5 : St i h') (e6 : Fr h₀ L h' m) (e7 : h'.Ns C m') (e8 : News h₀ L h' ((D, LCg.lst (res i d)) :: led i d)) (e9 : LCg.Off3 I C D (led i d)) (e10 : ok i d) : BlkAt h₀ I L C D n led res ok St m s₂ k s'
theorem block_V {elt iter : PySem.Expr} {x : Str} {px : Pos} {scope : Scope} {cl : List (Str × Addr)} {pos : Pos} {s₂ : Shared} {I : Addr} {fp : List Addr} {n : Nat} {P : Nat → Value → Prop} {St : Nat → Heap → Prop} {IO : Obj → Prop}
    {X : Type} {led : Nat → X → List (Addr × Obj)} {res : Nat → X → List Value} {ok : Nat → X → Prop} {RR : Value → Addr → Result → Shared → Prop} {d₀ : X}
    (W : Walks prog w A I fp [I] n P St) (hsz : n ≤ sizeLine) (hIo : ∀ i h, St i h → ∃ o, h.get? I = some o ∧ IO o)
    (hSt : ∀ i h h' o d, St i h → h.get? I = some o → h'.get? I = some o → (∀ b o, h₀.get? b = some o → h'.get? b = some o) → News h₀ L h' (led i d) → ok i d → St i h')
    (hcell : ∀ y ∈ scope.names, y.2 ≠ .cell) (hkind : scope.kind = .function) (hx : scope.names.lookup x = some .local) (hst : St 0 s₂.heap) (hfp : ∀ b ∈ fp, b < s₂.heap.objs.size)
    (F : Fr h₀ L s₂.heap m) (N : News h₀ L s₂.heap (led 0 d₀)) (hIL : L ≠ I) (hI₀ : h₀.get? I = none) (off : ∀ p ∈ led 0 d₀, p.1 ≠ I) (hok : ok 0 d₀) (hres : res 0 d₀ = [])
    (R : TurnV prog w A h₀ L m env elt x scope cl s₂ IO P n led res ok)
    (hRR : ∀ D C h tk m' d, Fr h₀ L h m → News h₀ L h ((D, LCg.lst (res n d)) :: led n d) → LCg.Off1 D (led n d) → h.Ns C m' → h₀.get? C = none → h₀.get? D = none → C ≠ L → D ≠ L → C ≠ D → (∀ p ∈ led n d, p.1 ≠ C) → ok n d → RR (.ref D) C (.ok .next) { s₂ with heap := h, toks := tk }) :
    wpAny (model prog w) A (newList []) (fun acc s₃ => wpAny (model prog w) A (newFunctionEnv scope env.globals cl [] env.qual none .none (some env)) (fun cenv s₄ =>
      codeAny (model prog w) A (.compStart (.ListComp elt [⟨.Name x px, iter, [], 0⟩] scope pos) 0 (.ref I) acc { cenv with scope := relabel scope env }) (RR acc cenv.locals) s₄) E s₃) E s₂ := by
  refine wpAny_newObj_type (wpAny_newFunctionEnv hcell (by intro y hy; simp at hy) (fun h₁ hns₁ hsb₁ => ?_) hkind)
  dsimp only at hns₁ hsb₁ ⊢
  generalize hH2 : s₂.heap.push { cls := .type "list", dict := none, data := .seq ([] : List Value).toArray } = H2 at hns₁ hsb₁ ⊢
  generalize hDd : s₂.heap.objs.size = D at hns₁ hsb₁ ⊢
  have hC : H2.objs.size = D + 1 := by rw [← hH2, Heap.size_push, hDd]
  have hDC : D ≠ H2.objs.size := by rw [hC]; exact Nat.ne_of_lt (Nat.lt_succ_self _)
  have hget : H2.get? D = some (LCg.lst []) := by rw [← hH2, ← hDd]; exact Heap.get?_push_size _ rfl
  have hup2 : ∀ b o, s₂.heap.get? b = some o → H2.get? b = some o := fun b o e => by rw [← hH2]; exact Heap.get?_push_of_some _ e
  generalize hCd : H2.objs.size = C at hns₁ hsb₁ hC hDC ⊢
  have below : ∀ b, b < D → b ≠ C ∧ b ≠ D := fun b hb => ⟨by rw [hC]; exact Nat.ne_of_lt (Nat.lt_succ_of_lt hb), Nat.ne_of_lt hb⟩
  have hlt : ∀ {b o}, s₂.heap.get? b = some o → b < D := fun e => hDd ▸ Heap.lt_size e
  rw [hDd] at hfp
  have hDf : D ∉ fp := fun hm => Nat.lt_irrefl _ (hfp _ hm)
  have hCf : C ∉ fp := fun hm => (below _ (hfp _ hm)).1 rfl
  have hIf : I ∈ fp := W.sub I (List.mem_singleton.mpr rfl)
  have old : ∀ b o, s₂.heap.get? b = some o → h₁.get? b = some o := fun b o e => hsb₁.extBut b o (below b (hlt e)).1 (Heap.get?_push_of_some _ (hup2 b o e))
  have hacc : h₁.get? D = some (LCg.lst []) := hsb₁.extBut _ _ hDC (Heap.get?_push_of_some _ hget)
  have hst₁ : St 0 h₁ := W.frame _ _ _ hst fun b _ o e => old b o e
  have fresh₀ : ∀ a, D ≤ a → h₀.get? a = none := fun a ha => ktu_new F (hDd.symm ▸ ha)
  have hD₀ : h₀.get? D = none := fresh₀ _ (Nat.le_refl _)
  have hC₀ : h₀.get? C = none := fresh₀ _ (by rw [hC]; exact Nat.le_succ _)
  have hLlt : L < D := hDd ▸ F.ns.lt
  have hDL : D ≠ L := Ne.symm (below L hLlt).2
  have hCL : C ≠ L := Ne.symm (below L hLlt).1
  have hCI : I ≠ C := (below I (hfp I hIf)).1
  have hDI : I ≠ D := (below I (hfp I hIf)).2
  have off₀ : LCg.Off3 I C D (led 0 d₀) := LCg.Off3.of fun p hp => ⟨off p hp, (below _ (hlt (N p hp).1)).1, (below _ (hlt (N p hp).1)).2⟩
  have loop : ∀ s₃ : Shared, s₃ = { s₂ with heap := h₁, toks := s₂.toks + ([] : List (Str × Value)).length } →
      codeAny (model prog w) A (.compLoop (.ListComp elt [⟨.Name x px, iter, [], 0⟩] scope pos) 0 (.ref I) (.ref D) (compEnvC scope cl C env)) (RR (.ref D) C) s₃ := by
    rintro s₃ rfl
    refine codeAny_compLoop_tests
      (BlkAt h₀ I L C D n led res ok St m s₂) ?_ (n + 1)
      ⟨h₁, _, 0, d₀, _, rfl, Nat.zero_le _, rfl, by rw [hres]; rfl, hst₁, F.keeps old, hns₁, fun p hp => ?_, off₀, hok⟩
    · rintro k s' ⟨h', tk, i, d, m', rfl, hi, rfl, hyl, hst', F', hn', N', off', hok'⟩
      have off3 := off'.mem
      by_cases hlt : i < n
      · refine W.item i _ _ _ hlt hst' fun v h₂ tk₂ hPv hst₂ hk₂ => ?_
        refine wpAny_assign_Name (wpAny_storeName_local (lookup_relabel_local hx) (hn'.at' fun o e => hk₂ _ o (by simpa using Ne.symm hCI) e) (fun h₃ hn₃ hs₃ => ?_) (by simp [compEnvC, relabel, hkind]))
        refine wpAny_tests_nil ?_
        simp only [if_true]
        have hst₃ : St (i + 1) h₃ := W.frame _ _ _ hst₂ fun b hb o e => hs₃.extBut b o (fun q => hCf (by have q' : b = C := q; rw [← q']; exact hb)) e
        refine hideG ?_
        intro b9 hb9
        rcases hIo _ _ hst₃ with ⟨oI, heI, hio⟩
        rcases LCg.ns_obj hn₃ with ⟨oC, heC, hoC⟩
        refine hb9 ?_
        clear hb9 b9
        have F₃ : Fr h₀ L h₃ m := (LCg.fr_but F' hk₂ hIL hI₀).change hs₃ hCL hC₀
        have N₂ : News h₀ L h₂ ((D, LCg.lst (res i d)) :: led i d) := LCg.news_but N' hk₂ fun p hp => by
          rcases List.mem_cons.mp hp with rfl | hp
          · exact Ne.symm hDI
          · exact (off3 p hp).1
        have N₃ : News h₀ L h₃ ((I, oI) :: (C, oC) :: (D, LCg.lst (res i d)) :: led i d) := fun p hp => by
          rcases List.mem_cons.mp hp with rfl | hp
          · exact ⟨heI, Ne.symm hIL, hI₀⟩
          · rcases List.mem_cons.mp hp with rfl | hp
            · exact ⟨heC, hCL, hC₀⟩
            · have z := N₂ p hp
              refine ⟨hs₃.extBut _ _ ?_ z.1, z.2⟩
              rcases List.mem_cons.mp hp with rfl | hp
              · exact hDC
              · exact (off3 p hp).2.1
        refine R i d v I oI C oC D _ h₃ _ _ _ hlt hok' hPv hio hoC (by simp) F₃ N₃ off' ⟨hCI, hDI, Ne.symm hDC⟩ fun y d₂ h₄ tk₄ hok₄ hr₄ F₄ N₄ off₄ => ?_
        have zI := (N₄ (I, oI) List.mem_cons_self).1
        have zC := (N₄ (C, oC) (List.mem_cons_of_mem _ List.mem_cons_self)).1
        have zD := (N₄ (D, LCg.lst (res i d)) (List.mem_cons_of_mem _ (List.mem_cons_of_mem _ List.mem_cons_self))).1
        have N₄' : News h₀ L h₄ (led (i + 1) d₂) := fun p hp => N₄ p (List.mem_cons_of_mem _ (List.mem_cons_of_mem _ (List.mem_cons_of_mem _ hp)))
        have hst₄ : St (i + 1) h₄ := hSt _ _ _ _ _ hst₃ heI zI F₄.keep N₄' hok₄
        refine append_at (hsz := by show (res i d).toArray.size ≤ sizeLine; rw [List.size_toArray, hyl]; exact Nat.le_trans hi hsz) zD fun h₅ hs₅ hD₅ => ?_
        have off4 := off₄.mem
        refine ⟨n + 1 - (i + 1), by omega, h₅, tk₄, i + 1, d₂, _, rfl, hlt, rfl, by rw [hr₄, List.length_append, List.length_singleton, hyl], W.frame _ _ _ hst₄ fun b hb o e => hs₅.extBut b o (fun q => hDf (q ▸ hb)) e, F₄.change hs₅ hDL hD₀,
          (hoC.ns zC).sameBut hs₅ (Ne.symm hDC), fun p hp => ?_, off₄, hok₄⟩
        · rcases List.mem_cons.mp hp with rfl | hp
          · exact ⟨hD₅.trans (congrArg some ((LCg.lst_snoc _ y).trans (congrArg LCg.lst hr₄.symm))), hDL, hD₀⟩
          · exact ⟨hs₅.extBut _ _ (off4 p hp).2.2 (N₄' p hp).1, (N₄' p hp).2⟩
      · obtain rfl : i = n := Nat.le_antisymm hi (Nat.not_lt.mp hlt)
        refine W.done _ _ _ hst' fun h₂ tk₂ hk₂ => ?_
        exact hRR _ _ h₂ tk₂ _ d (LCg.fr_but F' hk₂ hIL hI₀) (LCg.news_but N' hk₂ fun p hp => by
          rcases List.mem_cons.mp hp with rfl | hp
          · exact Ne.symm hDI
          · exact (off3 p hp).1) off'.one (hn'.at' fun o e => hk₂ _ o (by simpa using Ne.symm hCI) e) hC₀ hD₀ hCL hDL (Ne.symm hDC) (fun p hp => (off3 p hp).2.1) hok'
    · rcases List.mem_cons.mp hp with rfl | hp
      · rw [hres]; exact ⟨hacc, hDL, hD₀⟩
      · exact ⟨old _ _ (N p hp).1, (N p hp).2⟩
  exact codeAny_compStart_list (loop _ rfl) (W.self 0 _ _ _ hst₁ (loop _ rfl))
noncomputable def ListIt (o : Obj) : Prop := o.cls = .type "list_iterator" ∧ ∃ a k, o.data = .fields #[.ref a, .int k 0]
noncomputable def RangeIt (o : Obj) : Prop := o.cls = .type "range_iterator" ∧ ∃ a b c, o.data = .fields #[rawInt a, rawInt b, rawInt c]
inductive SrcV (prog : Program) (w : World) (A : Around) (h₀ : Heap) (L : Addr) (m : Str → Option Value) (env : Env) (elt : PySem.Expr) (x : Str) (scope : Scope) (cl : List (Str × Addr)) (Fin : Shared → List Value → List (Addr × Obj) → Prop) (xv : Value) (s₁ : Shared) : Prop
  | ofList (X : Type) (led : Nat → X → List (Addr × Obj)) (res : Nat → X → List Value) (ok : Nat → X → Prop) (d₀ : X) (hh : A.handled = none) (F : Fr h₀ L s₁.heap m) (N : News h₀ L s₁.heap (led 0 d₀)) (h0 : ok 0 d₀) (h1 : res 0 d₀ = []) (ax : Addr) (its : Array Value) (e : xv = .ref ax) (S : ∀ i d, ok i d → LCg.SrcAt h₀ ax its (led i d)) (hsz : its.size ≤ sizeLine) (T : TurnV prog w A h₀ L m env elt x scope cl s₁ ListIt (fun i v => its[i]? = some v) its.size led res ok) (fin : ∀ d, ok its.size d → Fin s₁ (res its.size d) (led its.size d)) : SrcV prog w A h₀ L m env elt x scope cl Fin xv s₁
  | ofRange (X : Type) (led : Nat → X → List (Addr × Obj)) (res : Nat → X → List Value) (ok : Nat → X → Prop) (d₀ : X) (hh : A.handled = none) (F : Fr h₀ L s₁.heap m) (N : News h₀ L s₁.heap (led 0 d₀)) (h0 : ok 0 d₀) (h1 : res 0 d₀ = []) (r : Addr) (a b : Int) (t u v : Tok) (n : Nat) (e : xv = .ref r) (hr : IsRange s₁.heap r a b 1 t u v) (hsm : Builtin.Range.small a b 1 = true) (hn : Builtin.Range.rangeSize a b 1 = ((n : Nat) : Int)) (hsz : n ≤ sizeLine) (T : TurnV prog w A h₀ L m env elt x scope cl s₁ RangeIt (fun i v => ∃ t, v = .int (a + (i : Int)) t) n led res ok) (fin : ∀ d, ok n d → Fin s₁ (res n d) (led n d)) : SrcV prog w A h₀ L m env elt x scope cl Fin xv s₁
theorem SrcV.list {elt : PySem.Expr} {x : Str} {scope : Scope} {cl : List (Str × Addr)} {Fin : Shared → List Value → List (Addr × Obj) → Prop} {ax : Addr} {its : Array Value} {k : Nat} {s₁ : Shared} {X : Type} (led : Nat → X → List (Addr × Obj)) (res : Nat → X → List Value) (ok : Nat → X → Prop) (d₀ : X)
    (hh : A.handled = none) (F : Fr h₀ L s₁.heap m) (N : News h₀ L s₁.heap (led 0 d₀)) (h0 : ok 0 d₀) (h1 : res 0 d₀ = []) (hm : ∀ i d, ok i d → (ax, ({ cls := .type "list", data := .seq its k } : Obj)) ∈ led i d) (hsz : its.size ≤ sizeLine)
    (T : TurnV prog w A h₀ L m env elt x scope cl s₁ ListIt (fun i v => its[i]? = some v) its.size led res ok) (fin : ∀ d, ok its.size d → Fin s₁ (res its.size d) (led its.size d)) : SrcV prog w A h₀ L m env elt x scope cl Fin (.ref ax) s₁ :=
  .ofList X led res ok d₀ hh F N h0 h1 ax its rfl (fun i d h => .inr ⟨_, hm i d h, rfl, _, rfl⟩) hsz T fin
theorem SrcV.range {elt : PySem.Expr} {x : Str} {scope : Scope} {cl : List (Str × Addr)} {Fin : Shared → List Value → List (Addr × Obj) → Prop} {r : Addr} {a b : Int} {t u v : Tok} {n : Nat} {s₁ : Shared} {X : Type} (led : Nat → X → List (Addr × Obj)) (res : Nat → X → List Value) (ok : Nat → X → Prop) (d₀ : X)
    (hh : A.handled = none) (F : Fr h₀ L s₁.heap m) (N : News h₀ L s₁.heap (led 0 d₀)) (h0 : ok 0 d₀) (h1 : res 0 d₀ = []) (hr : IsRange s₁.heap r a b 1 t u v) (hsm : Builtin.Range.small a b 1 = true) (hn : Builtin.Range.rangeSize a b 1 = ((n : Nat) : Int)) (hsz : n ≤ sizeLine)
    (T : TurnV prog w A h₀ L m env elt x scope cl s₁ RangeIt (fun i v => ∃ t, v = .int (a + (i : Int)) t) n led res ok) (fin : ∀ d, ok n d → Fin s₁ (res n d) (led n d)) : SrcV prog w A h₀ L m env elt x scope cl Fin (.ref r) s₁ :=
  .ofRange X led res ok d₀ hh F N h0 h1 r a b t u v n rfl hr hsm hn hsz T fin
theorem src_block {elt iter : PySem.Expr} {x : Str} {px : Pos} {scope : Scope} {cl : List (Str × Addr)} {pos : Pos} {s₁ : Shared} {xv : Value} {Fin : Shared → List Value → List (Addr × Obj) → Prop} {use : Option (Value → Sem Unit)} {Q : Value → Shared → Prop}
    (hcell : ∀ y ∈ scope.names, y.2 ≠ .cell) (hkind : scope.kind = .function) (hx : scope.names.lookup x = some .local) (h : SrcV prog w A h₀ L m env elt x scope cl Fin xv s₁)
    (hRR : ∀ D C h tk m' ys news, Fr h₀ L h m → News h₀ L h ((D, LCg.lst ys) :: news) → LCg.Off1 D news → h.Ns C m' → h₀.get? C = none → C ≠ L → C ≠ D → (∀ p ∈ news, p.1 ≠ C) → Fin s₁ ys news → compPost (model prog w) A E use Q (.ref D) C (.ok .next) { s₁ with heap := h, toks := tk }) :
    wpAny (model prog w) A (pyIter xv) (fun it s₂ => wpAny (model prog w) A (newList []) (fun acc s₃ => wpAny (model prog w) A (newFunctionEnv scope env.globals cl [] env.qual none .none (some env)) (fun cenv s₄ =>
      codeAny (model prog w) A (.compStart (.ListComp elt [⟨.Name x px, iter, [], 0⟩] scope pos) 0 it acc { cenv with scope := relabel scope env }) (compPost (model prog w) A E use Q acc cenv.locals) s₄) E s₃) E s₂) E s₁ := by
  rcases h with ⟨X, led, res, ok, d₀, hh, F, N, h0, h1, ax, its, rfl, S, hsz, T, fin⟩ | ⟨X, led, res, ok, d₀, hh, F, N, h0, h1, r, a, b, t, u, v, n, rfl, hr, hsm, hn, hsz, T, fin⟩
  · have hl := (S 0 d₀ h0).list F.keep N
    have hlt : ax < s₁.heap.objs.size := by obtain ⟨_, e, _⟩ := hl; exact Heap.lt_size e
    refine wpAny_pyIter_list hl ?_
    refine block_V (IO := ListIt) (Walks.list hh s₁.heap.objs.size ax (Nat.ne_of_lt hlt) its) hsz (fun i h st => by obtain ⟨o, e, e2, e3⟩ := st.1; exact ⟨o, e, e2, _, _, e3⟩)
      (fun i h h' o d st e e' hk Nd hd => LCg.list_st i h h' o _ st e e' hk Nd (S i d hd)) hcell hkind hx ⟨⟨_, Heap.get?_push_size _ rfl, rfl, rfl⟩, hl.push _⟩ (fun b hb => ?_)
      (F.keeps fun _ _ e => Heap.get?_push_of_some _ e) (N.grown fun _ _ e => Heap.get?_push_of_some _ e) (Nat.ne_of_lt F.ns.lt) (next_is_new F) (fun p hp => Nat.ne_of_lt (Heap.lt_size (N p hp).1)) h0 h1 T fun D C h tk m' d F' N' o1 hn hC₀ _ hCL _ hCD offC hok => hRR D C h tk m' _ _ F' N' o1 hn hC₀ hCL hCD offC (fin d hok)
    show b < (s₁.heap.push _).objs.size
    rw [Heap.size_push]
    rcases List.mem_cons.mp hb with rfl | hb
    · exact Nat.lt_succ_self _
    · rw [List.mem_singleton.mp hb]; exact Nat.lt_succ_of_lt hlt
  · refine wpAny_pyIter_range hr hsm ?_
    refine block_V (IO := RangeIt) (LCg.range_walks hh a n) hsz (fun i h st => by have st2 : h.get? _ = some _ := st; exact ⟨_, st2, rfl, _, _, _, rfl⟩)
      (fun i h h' o d st e e' hk Nd _ => LCg.range_st i h h' o _ st e e' hk Nd trivial) hcell hkind hx (by show IsRangeIter _ _ _ _ _; rw [hn]; simpa using Heap.get?_push_size _ rfl) (fun b hb => ?_)
      (F.keeps fun _ _ e => Heap.get?_push_of_some _ e) (N.grown fun _ _ e => Heap.get?_push_of_some _ e) (Nat.ne_of_lt F.ns.lt) (next_is_new F) (fun p hp => Nat.ne_of_lt (Heap.lt_size (N p hp).1)) h0 h1 T fun D C h tk m' d F' N' o1 hn hC₀ _ hCL _ hCD offC hok => hRR D C h tk m' _ _ F' N' o1 hn hC₀ hCL hCD offC (fin d hok)
    rw [List.mem_singleton.mp hb]
    show s₁.heap.objs.size < (s₁.heap.push _).objs.size
    rw [Heap.size_push]; exact Nat.lt_succ_self _
theorem ListComp_V {elt iter : PySem.Expr} {x : Str} {px : Pos} {scope : Scope} {cl : List (Str × Addr)} {pos : Pos} {Q : Value → Shared → Prop} (_F₀ : Fr h₀ L s.heap m)
    (hclos : closureFor scope env = pure cl) (hcell : ∀ y ∈ scope.names, y.2 ≠ .cell) (hkind : scope.kind = .function)
    (hnames : ∀ y ∈ scope.names, y.2 = .local → scope.names.lookup y.1 = some .local) (hx : scope.names.lookup x = some .local)
    (h : wpAny (model prog w) A (eval iter env) (fun v s => Stop (SrcV prog w A h₀ L m env elt x scope cl (fun s₂ => LCg.FinE h₀ L m s₂ Q) v s)) E s)
    (hs : ∀ x, foldedSetIterable iter env x = pure x := by intro _; rfl) :
    wpAny (model prog w) A (eval (.ListComp elt [⟨.Name x px, iter, [], 0⟩] scope pos) env) Q E s := by
  rw [eval_ListComp]
  refine wpAny_comprehension_free (use := none) rfl hs hclos hkind hnames (wpAny_mono h (fun xv s₁ h₁ => src_block hcell hkind hx h₁ fun D C h tk m' ys news F' N' o1 hn hC₀ hCL hCD offC fin => ?_) fun _ _ e => e)
  refine ⟨m', hn, fun h'' hs'' => fin D h'' tk (F'.change hs'' hCL hC₀) (fun p hp => ⟨hs''.extBut _ _ ?_ (N' p hp).1, (N' p hp).2⟩) o1⟩
  rcases List.mem_cons.mp hp with rfl | hp
  · exact Ne.symm hCD
  · exact offC p hp
theorem Assign_ListComp_V {elt iter : PySem.Expr} {x y : Str} {px py : Pos} {scope : Scope} {cl : List (Str × Addr)} {pos spos : Pos} {Q : Flow → Shared → Prop} (_F₀ : Fr h₀ L s.heap m) (hLe : env.locals = L)
    (hsw : swapsWith (.ListComp elt [⟨.Name x px, iter, [], 0⟩] scope pos) (some (.Name y py)) spos.line env = pure true)
    (hclos : closureFor scope env = pure cl) (hcell : ∀ z ∈ scope.names, z.2 ≠ .cell) (hkind : scope.kind = .function)
    (hnames : ∀ z ∈ scope.names, z.2 = .local → scope.names.lookup z.1 = some .local) (hx : scope.names.lookup x = some .local)
    (hy : env.kindOf y = some .local) (hp : (env.scope.kind == .class || (env.scope.kind == .module && env.locals != env.globals)) = false)
    (h : wpAny (model prog w) A (eval iter env) (fun v s => Stop (SrcV prog w A h₀ L m env elt x scope cl (fun s₂ => LCg.FinA h₀ L m s₂ y Q) v s)) E s)
    (hs : ∀ x, foldedSetIterable iter env x = pure x := by intro _; rfl) :
    wpAny (model prog w) A (exec (.Assign [.Name y py] (.ListComp elt [⟨.Name x px, iter, [], 0⟩] scope pos) spos) env) Q E s := by
  subst hLe
  rw [exec_Assign_Name_used _ _ _ _ hsw]
  refine wpAny_bind (wpAny_standAt (wpAny_bind ?_))
  show wpAny _ A (do let _ ← comprehension (.ListComp elt [⟨.Name x px, iter, [], 0⟩] scope pos) scope env _ (newList []) false (eval iter env) (some (assign (.Name y py) env))) _ _ s
  refine wpAny_bind (wpAny_mono (wpAny_comprehension_free (use := some (assign (.Name y py) env)) (Q := fun _ s' => Q .next s') rfl hs hclos hkind hnames
    (wpAny_mono h (fun xv s₁ h₁ => src_block hcell hkind hx h₁ fun D C h' tk m' ys news F' N' o1 hn hC₀ hCL hCD offC fin => ?_) fun _ _ e => e)) (fun _ s' hq => wpAny_pure (wpAny_pure hq)) fun _ _ e => e)
  show wpAny _ A (assign (.Name y py) env (.ref D)) _ _ _
  refine wpAny_assign_Name (wpAny_storeName_local hy F'.ns (fun h₂ hn₂ hs₂ => ?_) hp)
  have hL₀ : h₀.get? env.locals = none := Heap.get?_none_of_le F'.above
  have F₂ : Fr h₀ env.locals h₂ (fun z => if z = y then some (.ref D) else m z) := ⟨hn₂, fun b o e => hs₂.extBut b o (fun q => by have q' : b = env.locals := q; rw [q', hL₀] at e; cases e) (F'.keep b o e), F'.above⟩
  refine ⟨m', hn.sameBut hs₂ hCL, fun h'' hs'' => fin D h'' _ (F₂.change hs'' hCL hC₀) (fun p hp => ?_) o1⟩
  have z : h₂.get? p.1 = some p.2 := hs₂.extBut _ _ (N' p hp).2.1 (N' p hp).1
  refine ⟨hs''.extBut _ _ ?_ z, (N' p hp).2⟩
  rcases List.mem_cons.mp hp with rfl | hp
  · exact Ne.symm hCD
  · exact offC p hp
end
end Lw
end
example : True := by k_with_none; w_top off; trivial
section
open PySem PySem.W PyProof.Rows
namespace Lw
example : True := by
  k_with_none
  k_with "omega" => ((fail_if_success (fail_if_success (omega (config := {})))); first | lia | omega (config := {}))
  trivial
open PySem.Calls
noncomputable def TurnK (prog : Program) (w : World) (A : Around) (h₀ : Heap) (L : Addr) (m : Str → Option Value) (env : Env) (elt : PySem.Expr) (x : Str) (scope : Scope) (cl : List (Str × Addr)) (s : Shared) (its : Array Value)
    {X : Type} (led : Nat → X → List (Addr × Obj)) (res : Nat → X → List Value) (ok : Nat → X → Prop) : Prop :=
  ∀ i (d : X) v I oI C oC D K oK m₂ h tk (E' G : Value → Shared → Prop), i < its.size → ok i d → its[i]? = some v → ListIt oI → LCg.NsObj oC m₂ → oK.data = .cell (some v) → Fr h₀ L h m → News h₀ L h ((I, oI) :: (C, oC) :: (D, LCg.lst (res i d)) :: (K, oK) :: led i d) → LCg.Off3 I C D ((K, oK) :: led i d) → (∀ p ∈ led i d, p.1 ≠ K) → ((@Ne Nat I C) ∧ (@Ne Nat I D) ∧ (@Ne Nat C D)) →
    (∀ y d₂ h' tk', ok (i + 1) d₂ → res (i + 1) d₂ = res i d ++ [y] → Fr h₀ L h' m → News h₀ L h' ((I, oI) :: (C, oC) :: (D, LCg.lst (res i d)) :: (K, oK) :: led (i + 1) d₂) → LCg.Off3 I C D ((K, oK) :: led (i + 1) d₂) → (∀ p ∈ led (i + 1) d₂, p.1 ≠ K) → G y { s with heap := h', toks := tk' }) →
    wpAny (model prog w) A (eval elt (compEnvC scope ((x, K) :: cl) C env)) G E' { s with heap := h, toks := tk }
section
variable {prog : Program} {w : World} {A : Around} {E : Value → Shared → Prop} {s : Shared} {h₀ : Heap} {L : Addr} {m : Str → Option Value} {env : Env}
theorem newEnv_K {scope : Scope} {cl : List (Str × Addr)} {x : Str} {M : Model} {Q : Env → Shared → Prop} (hc : ∀ n, cellsFrom n scope.names cl = (x, n) :: cl) (hp : ∀ h : Heap, pushCells h scope.names = h.push { cls := .type "cell", data := .cell none })
    (h : Q { scope, locals := s.heap.objs.size, globals := env.globals, cells := (x, s.heap.objs.size + 1) :: cl, qual := env.qual, func := none, code := env.code, frame := env.frame, builtins := env.builtins } { s with heap := (s.heap.push { cls := .type "dict", data := .dict #[] }).push { cls := .type "cell", data := .cell none } }) :
    wpAny M A (newFunctionEnv scope env.globals cl [] env.qual none .none (some env)) Q E s := by
  simp only [newFunctionEnv, Option.isSome_some, if_true]
  refine wpAny_bind (wpAny_alloc ?_)
  refine wpAny_bind (wpAny_layCells _ (fun name kind cells => by cases hkc : kind == NameKind.cell <;> simp [hkc]) _ _ _ _ ?_)
  rw [hp, show ({ s with heap := s.heap.push { cls := .type "dict", data := .dict #[] } } : Shared).heap.objs.size = s.heap.objs.size + 1 from Heap.size_push .., hc]
  exact wpAny_bind (wpAny_pure (wpAny_pure h))
inductive BlkKAt {X : Type} (h₀ : Heap) (I L C D K : Addr) (n : Nat) (led : Nat → X → List (Addr × Obj)) (res : Nat → X → List Value) (ok : Nat → X → Prop) (St : Nat → Heap → Prop) (m : Str → Option Value) (s₂ : Shared) (k : Nat) (s' : Shared) : Prop
  | mk (h' : Heap) (tk : Tok) (i : Nat) (d : X) (oC : Obj) (m' : Str → Option Value) (oK : Obj) (v₀ : Option Value) (e1 : s' = { s₂ with heap := h', toks := tk }) (e2 : i ≤ n) (e3 : k = n + 1 - i) (e4 : (res i d).length = i) (e5 : St i h') (e6 : Fr h₀ L h' m) (e7 : LCg.NsObj oC m') (e8 : oK.data = .cell v₀) (e9 : News h₀ L h' ((C, oC) :: (D, LCg.lst (res i d)) :: (K, oK) :: led i d)) (e10 : LCg.Off3 I C D (led i d)) (e11 : ∀ p ∈ led i d, p.1 ≠ K) (e12 : ok i d) : BlkKAt h₀ I L C D K n led res ok St m s₂ k s'
theorem block_K {elt iter : PySem.Expr} {x : Str} {px : Pos} {scope : Scope} {cl : List (Str × Addr)} {pos : Pos} {s₂ : Shared} {I : Addr} {fp : List Addr} {its : Array Value} {St : Nat → Heap → Prop}
    {X : Type} {led : Nat → X → List (Addr × Obj)} {res : Nat → X → List Value} {ok : Nat → X → Prop} {RR : Value → Addr → Result → Shared → Prop} {d₀ : X}
    (W : Walks prog w A I fp [I] its.size (fun i v => its[i]? = some v) St) (hsz : its.size ≤ sizeLine) (hIo : ∀ i h, St i h → ∃ o, h.get? I = some o ∧ ListIt o)
    (hSt : ∀ i h h' o d, St i h → h.get? I = some o → h'.get? I = some o → (∀ b o, h₀.get? b = some o → h'.get? b = some o) → News h₀ L h' (led i d) → ok i d → St i h')
    (hcf : ∀ n, cellsFrom n scope.names cl = (x, n) :: cl) (hpc : ∀ h : Heap, pushCells h scope.names = h.push { cls := .type "cell", data := .cell none })
    (hkind : scope.kind = .function) (hx : ∀ C K, (compEnvC scope ((x, K) :: cl) C env).kindOf x = some .cell) (hst : St 0 s₂.heap) (hfp : ∀ b ∈ fp, b < s₂.heap.objs.size)
    (F : Fr h₀ L s₂.heap m) (N : News h₀ L s₂.heap (led 0 d₀)) (hIL : L ≠ I) (hI₀ : h₀.get? I = none) (off : ∀ p ∈ led 0 d₀, p.1 ≠ I) (hok : ok 0 d₀) (hres : res 0 d₀ = [])
    (R : TurnK prog w A h₀ L m env elt x scope cl s₂ its led res ok)
    (hRR : ∀ D C h tk m' d, Fr h₀ L h m → News h₀ L h ((D, LCg.lst (res its.size d)) :: led its.size d) → LCg.Off1 D (led its.size d) → h.Ns C m' → h₀.get? C = none → h₀.get? D = none → C ≠ L → D ≠ L → C ≠ D → (∀ p ∈ led its.size d, p.1 ≠ C) → ok its.size d → RR (.ref D) C (.ok .next) { s₂ with heap := h, toks := tk }) :
    wpAny (model prog w) A (newList []) (fun acc s₃ => wpAny (model prog w) A (newFunctionEnv scope env.globals cl [] env.qual none .none (some env)) (fun cenv s₄ =>
      codeAny (model prog w) A (.compStart (.ListComp elt [⟨.Name x px, iter, [], 0⟩] scope pos) 0 (.ref I) acc { cenv with scope := relabel scope env }) (RR acc cenv.locals) s₄) E s₃) E s₂ := by
  refine wpAny_newObj_type (newEnv_K hcf hpc ?_)
  dsimp only
  generalize hH2 : s₂.heap.push { cls := .type "list", dict := none, data := .seq ([] : List Value).toArray } = H2
  generalize hDd : s₂.heap.objs.size = D
  have hCs : H2.objs.size = D + 1 := by rw [← hH2, Heap.size_push, hDd]
  have hget : H2.get? D = some (LCg.lst []) := by rw [← hH2, ← hDd]; exact Heap.get?_push_size _ rfl
  have hup2 : ∀ b o, s₂.heap.get? b = some o → H2.get? b = some o := fun b o e => by rw [← hH2]; exact Heap.get?_push_of_some _ e
  generalize hCd : H2.objs.size = C at hCs ⊢
  generalize hH3 : H2.push { cls := .type "dict", data := .dict #[] } = H3
  have hK : H3.objs.size = C + 1 := by rw [← hH3, Heap.size_push, hCd]
  have hCg : H3.get? C = some { cls := .type "dict", data := .dict #[] } := by rw [← hH3, ← hCd]; exact Heap.get?_push_size _ rfl
  have hup3 : ∀ b o, H2.get? b = some o → H3.get? b = some o := fun b o e => by rw [← hH3]; exact Heap.get?_push_of_some _ e
  generalize hKd : C + 1 = K at hK ⊢
  generalize hh1 : H3.push { cls := .type "cell", data := .cell none } = h₁
  have hKg : h₁.get? K = some { cls := .type "cell", data := .cell none } := by rw [← hh1, ← hK]; exact Heap.get?_push_size _ rfl
  have hup4 : ∀ b o, H3.get? b = some o → h₁.get? b = some o := fun b o e => by rw [← hh1]; exact Heap.get?_push_of_some _ e
  have below : ∀ b, b < D → b ≠ C ∧ b ≠ D ∧ b ≠ K := fun b hb => ⟨Nat.ne_of_lt (by omega), Nat.ne_of_lt hb, Nat.ne_of_lt (by omega)⟩
  have hDC : D ≠ C := Nat.ne_of_lt (by omega)
  have hDK : D ≠ K := Nat.ne_of_lt (by omega)
  have hCK : C ≠ K := Nat.ne_of_lt (by omega)
  have hlt : ∀ {b o}, s₂.heap.get? b = some o → b < D := fun e => hDd ▸ Heap.lt_size e
  rw [hDd] at hfp
  have hDf : D ∉ fp := fun hm => Nat.lt_irrefl _ (hfp _ hm)
  have hCf : C ∉ fp := fun hm => (below _ (hfp _ hm)).1 rfl
  have hKf : K ∉ fp := fun hm => (below _ (hfp _ hm)).2.2 rfl
  have hIf : I ∈ fp := W.sub I (List.mem_singleton.mpr rfl)
  have old : ∀ b o, s₂.heap.get? b = some o → h₁.get? b = some o := fun b o e => hup4 _ _ (hup3 _ _ (hup2 _ _ e))
  have hacc : h₁.get? D = some (LCg.lst []) := hup4 _ _ (hup3 _ _ hget)
  have hCob : h₁.get? C = some { cls := .type "dict", data := .dict #[] } := hup4 _ _ hCg
  have hst₁ : St 0 h₁ := W.frame _ _ _ hst fun b _ o e => old b o e
  have fresh₀ : ∀ a, D ≤ a → h₀.get? a = none := fun a ha => ktu_new F (hDd.symm ▸ ha)
  have hD₀ : h₀.get? D = none := fresh₀ _ (Nat.le_refl _)
  have hC₀ : h₀.get? C = none := fresh₀ _ (by omega)
  have hK₀ : h₀.get? K = none := fresh₀ _ (by omega)
  have hLlt : L < D := hDd ▸ F.ns.lt
  have hDL : D ≠ L := Ne.symm (below L hLlt).2.1
  have hCL : C ≠ L := Ne.symm (below L hLlt).1
  have hKL : K ≠ L := Ne.symm (below L hLlt).2.2
  have hCI : I ≠ C := (below I (hfp I hIf)).1
  have hDI : I ≠ D := (below I (hfp I hIf)).2.1
  have hKI : I ≠ K := (below I (hfp I hIf)).2.2
  have hns₁ : LCg.NsObj { cls := .type "dict", data := .dict #[] } (fun _ => none) := ⟨_, _, rfl, by intro e he; simp at he, fun _ => rfl⟩
  have off₀ : LCg.Off3 I C D (led 0 d₀) := LCg.Off3.of fun p hp => ⟨off p hp, (below _ (hlt (N p hp).1)).1, (below _ (hlt (N p hp).1)).2.1⟩
  have loop : ∀ s₃ : Shared, s₃ = { s₂ with heap := h₁ } →
      codeAny (model prog w) A (.compLoop (.ListComp elt [⟨.Name x px, iter, [], 0⟩] scope pos) 0 (.ref I) (.ref D) (compEnvC scope ((x, K) :: cl) C env)) (RR (.ref D) C) s₃ := by
    rintro s₃ rfl
    refine codeAny_compLoop_tests
      (BlkKAt h₀ I L C D K its.size led res ok St m s₂) ?_ (its.size + 1)
      ⟨h₁, _, 0, d₀, { cls := .type "dict", data := .dict #[] }, fun _ => none, { cls := .type "cell", data := .cell none }, none, rfl, Nat.zero_le _, rfl, by rw [hres]; rfl, hst₁, F.keeps old, hns₁, rfl, fun p hp => ?_, off₀, fun p hp => (below _ (hlt (N p hp).1)).2.2, hok⟩
    · rintro k s' ⟨h', tk, i, d, oC, m', oK, v₀, rfl, hi, rfl, hyl, hst', F', hn', hd', N', off', offK, hok'⟩
      have off3 := off'.mem
      have offI : ∀ p ∈ (C, oC) :: (D, LCg.lst (res i d)) :: (K, oK) :: led i d, p.1 ≠ I := fun p hp => by
        rcases List.mem_cons.mp hp with rfl | hp
        · exact Ne.symm hCI
        rcases List.mem_cons.mp hp with rfl | hp
        · exact Ne.symm hDI
        rcases List.mem_cons.mp hp with rfl | hp
        · exact Ne.symm hKI
        · exact (off3 p hp).1
      by_cases hlt : i < its.size
      · refine W.item i _ _ _ hlt hst' fun v h₂ tk₂ hPv hst₂ hk₂ => ?_
        have F₂ : Fr h₀ L h₂ m := LCg.fr_but F' hk₂ hIL hI₀
        have N₂ := LCg.news_but N' hk₂ offI
        have hKo := (N₂ (K, oK) (.tail _ (.tail _ (.head _)))).1
        refine wpAny_assign_Name (wpAny_storeName_cell (c := K) hkind (hx C K) (by simp [compEnvC]) ⟨oK, hKo, hd'⟩ fun h₃ hv₃ hs₃ => ?_)
        obtain ⟨oK', hoK', hdK'⟩ := hv₃
        refine wpAny_tests_nil ?_
        simp only [if_true]
        have hst₃ : St (i + 1) h₃ := W.frame _ _ _ hst₂ fun b hb o e => hs₃.extBut b o (fun q => hKf (by have q' : b = K := q; rw [← q']; exact hb)) e
        obtain ⟨oI, heI, hio⟩ := hIo _ _ hst₃
        have F₃ : Fr h₀ L h₃ m := F₂.change hs₃ hKL hK₀
        have up3 : ∀ p ∈ (C, oC) :: (D, LCg.lst (res i d)) :: (K, oK) :: led i d, p.1 ≠ K → h₃.get? p.1 = some p.2 ∧ p.1 ≠ L ∧ h₀.get? p.1 = none := fun p hp hne => ⟨hs₃.extBut _ _ hne (N₂ p hp).1, (N₂ p hp).2⟩
        have N₃ : News h₀ L h₃ ((I, oI) :: (C, oC) :: (D, LCg.lst (res i d)) :: (K, oK') :: led i d) := fun p hp => by
          rcases List.mem_cons.mp hp with rfl | hp
          · exact ⟨heI, Ne.symm hIL, hI₀⟩
          rcases List.mem_cons.mp hp with rfl | hp
          · exact up3 _ (.head _) hCK
          rcases List.mem_cons.mp hp with rfl | hp
          · exact up3 _ (.tail _ (.head _)) hDK
          rcases List.mem_cons.mp hp with rfl | hp
          · exact ⟨hoK', hKL, hK₀⟩
          · exact up3 _ (.tail _ (.tail _ (.tail _ hp))) (offK p hp)
        refine R i d v I oI C oC D K oK' _ h₃ _ _ _ hlt hok' hPv hio hn' hdK' F₃ N₃ (LCg.Off3.of fun p hp => ?_) offK ⟨hCI, hDI, Ne.symm hDC⟩ fun y d₂ h₄ tk₄ hok₄ hr₄ F₄ N₄ off₄ offK₄ => ?_
        · rcases List.mem_cons.mp hp with rfl | hp
          · exact ⟨Ne.symm hKI, Ne.symm hCK, Ne.symm hDK⟩
          · exact off3 p hp
        have zI := (N₄ (I, oI) List.mem_cons_self).1
        have zD := (N₄ (D, LCg.lst (res i d)) (List.mem_cons_of_mem _ (List.mem_cons_of_mem _ List.mem_cons_self))).1
        have N₄' : News h₀ L h₄ (led (i + 1) d₂) := fun p hp => N₄ p (List.mem_cons_of_mem _ (List.mem_cons_of_mem _ (List.mem_cons_of_mem _ (List.mem_cons_of_mem _ hp))))
        have hst₄ : St (i + 1) h₄ := hSt _ _ _ _ _ hst₃ heI zI F₄.keep N₄' hok₄
        refine append_at (hsz := by show (res i d).toArray.size ≤ sizeLine; rw [List.size_toArray, hyl]; exact Nat.le_trans hi hsz) zD fun h₅ hs₅ hD₅ => ?_
        have off4 := off₄.mem
        refine ⟨its.size + 1 - (i + 1), by omega, h₅, tk₄, i + 1, d₂, oC, _, oK', _, rfl, hlt, rfl, by rw [hr₄, List.length_append, List.length_singleton, hyl], W.frame _ _ _ hst₄ fun b hb o e => hs₅.extBut b o (fun q => hDf (q ▸ hb)) e, F₄.change hs₅ hDL hD₀,
          hn', hdK', fun p hp => ?_, LCg.Off3.of fun p hp => off4 p (.tail _ hp), offK₄, hok₄⟩
        rcases List.mem_cons.mp hp with rfl | hp
        · exact ⟨hs₅.extBut _ _ (Ne.symm hDC) (N₄ _ (.tail _ (.head _))).1, hCL, hC₀⟩
        rcases List.mem_cons.mp hp with rfl | hp
        · exact ⟨hD₅.trans (congrArg some ((LCg.lst_snoc _ y).trans (congrArg LCg.lst hr₄.symm))), hDL, hD₀⟩
        rcases List.mem_cons.mp hp with rfl | hp
        · exact ⟨hs₅.extBut _ _ (Ne.symm hDK) (N₄ _ (.tail _ (.tail _ (.tail _ (.head _))))).1, hKL, hK₀⟩
        · exact ⟨hs₅.extBut _ _ (off4 p (.tail _ hp)).2.2 (N₄' p hp).1, (N₄' p hp).2⟩
      · obtain rfl : i = its.size := Nat.le_antisymm hi (Nat.not_lt.mp hlt)
        refine W.done _ _ _ hst' fun h₂ tk₂ hk₂ => ?_
        have N₂ := LCg.news_but N' hk₂ offI
        refine hRR _ _ h₂ tk₂ _ d (LCg.fr_but F' hk₂ hIL hI₀) (fun p hp => ?_) (LCg.Off3.one off') (hn'.ns (N₂ _ (.head _)).1) hC₀ hD₀ hCL hDL (Ne.symm hDC) (fun p hp => (off3 p hp).2.1) hok'
        rcases List.mem_cons.mp hp with rfl | hp
        · exact N₂ _ (.tail _ (.head _))
        · exact N₂ _ (.tail _ (.tail _ (.tail _ hp)))
    · rcases List.mem_cons.mp hp with rfl | hp
      · exact ⟨hCob, hCL, hC₀⟩
      rcases List.mem_cons.mp hp with rfl | hp
      · rw [hres]; exact ⟨hacc, hDL, hD₀⟩
      rcases List.mem_cons.mp hp with rfl | hp
      · exact ⟨hKg, hKL, hK₀⟩
      · exact ⟨old _ _ (N p hp).1, (N p hp).2⟩
  exact codeAny_compStart_list (loop _ rfl) (W.self 0 _ _ _ hst₁ (loop _ rfl))
inductive SrcK (prog : Program) (w : World) (A : Around) (h₀ : Heap) (L : Addr) (m : Str → Option Value) (env : Env) (elt : PySem.Expr) (x : Str) (scope : Scope) (cl : List (Str × Addr)) (Fin : Shared → List Value → List (Addr × Obj) → Prop) (xv : Value) (s₁ : Shared) : Prop
  | mk (X : Type) (led : Nat → X → List (Addr × Obj)) (res : Nat → X → List Value) (ok : Nat → X → Prop) (d₀ : X) (ax : Addr) (its : Array Value) (zz1 : xv = .ref ax) (zz2 : A.handled = none) (zz3 : Fr h₀ L s₁.heap m) (zz4 : News h₀ L s₁.heap (led 0 d₀)) (zz5 : ok 0 d₀) (zz6 : res 0 d₀ = []) (zz7 : (∀ i d, ok i d → LCg.SrcAt h₀ ax its (led i d))) (zz8 : its.size ≤ sizeLine) (zz9 : TurnK prog w A h₀ L m env elt x scope cl s₁ its led res ok) (zz10 : ∀ d, ok its.size d → Fin s₁ (res its.size d) (led its.size d)) : SrcK prog w A h₀ L m env elt x scope cl Fin xv s₁
theorem SrcK.list {elt : PySem.Expr} {x : Str} {scope : Scope} {cl : List (Str × Addr)} {Fin : Shared → List Value → List (Addr × Obj) → Prop} {ax : Addr} {its : Array Value} {k : Nat} {s₁ : Shared} {X : Type} (led : Nat → X → List (Addr × Obj)) (res : Nat → X → List Value) (ok : Nat → X → Prop) (d₀ : X)
    (hh : A.handled = none) (F : Fr h₀ L s₁.heap m) (N : News h₀ L s₁.heap (led 0 d₀)) (h0 : ok 0 d₀) (h1 : res 0 d₀ = []) (hm : ∀ i d, ok i d → (ax, ({ cls := .type "list", data := .seq its k } : Obj)) ∈ led i d) (hsz : its.size ≤ sizeLine)
    (T : TurnK prog w A h₀ L m env elt x scope cl s₁ its led res ok) (fin : ∀ d, ok its.size d → Fin s₁ (res its.size d) (led its.size d)) : SrcK prog w A h₀ L m env elt x scope cl Fin (.ref ax) s₁ :=
  ⟨X, led, res, ok, d₀, ax, its, rfl, hh, F, N, h0, h1, fun i d h => .inr ⟨_, hm i d h, rfl, _, rfl⟩, hsz, T, fin⟩
theorem Assign_ListComp_K {elt iter : PySem.Expr} {x y : Str} {px py : Pos} {scope : Scope} {cl : List (Str × Addr)} {pos spos : Pos} {Q : Flow → Shared → Prop} (_F₀ : Fr h₀ L s.heap m) (hLe : env.locals = L)
    (hsw : swapsWith (.ListComp elt [⟨.Name x px, iter, [], 0⟩] scope pos) (some (.Name y py)) spos.line env = pure true)
    (hclos : closureFor scope env = pure cl) (hcf : ∀ n, cellsFrom n scope.names cl = (x, n) :: cl) (hpc : ∀ h : Heap, pushCells h scope.names = h.push { cls := .type "cell", data := .cell none }) (hkind : scope.kind = .function)
    (hnames : ∀ z ∈ scope.names, z.2 = .local → scope.names.lookup z.1 = some .local) (hx : ∀ C K, (compEnvC scope ((x, K) :: cl) C env).kindOf x = some .cell)
    (hy : env.kindOf y = some .local) (hp : (env.scope.kind == .class || (env.scope.kind == .module && env.locals != env.globals)) = false)
    (h : wpAny (model prog w) A (eval iter env) (fun v s => Stop (SrcK prog w A h₀ L m env elt x scope cl (fun s₂ => LCg.FinA h₀ L m s₂ y Q) v s)) E s)
    (hs : ∀ x, foldedSetIterable iter env x = pure x := by intro _; rfl) :
    wpAny (model prog w) A (exec (.Assign [.Name y py] (.ListComp elt [⟨.Name x px, iter, [], 0⟩] scope pos) spos) env) Q E s := by
  subst hLe
  rw [exec_Assign_Name_used _ _ _ _ hsw]
  refine wpAny_bind (wpAny_standAt (wpAny_bind ?_))
  show wpAny _ A (do let _ ← comprehension (.ListComp elt [⟨.Name x px, iter, [], 0⟩] scope pos) scope env _ (newList []) false (eval iter env) (some (assign (.Name y py) env))) _ _ s
  refine wpAny_bind (wpAny_mono (wpAny_comprehension_free (use := some (assign (.Name y py) env)) (Q := fun _ s' => Q .next s') rfl hs hclos hkind hnames
    (wpAny_mono h (fun xv s₁ h₁ => ?_) fun _ _ e => e)) (fun _ s' hq => wpAny_pure (wpAny_pure hq)) fun _ _ e => e)
  refine hideG ?_
  intro b9 hb9
  rcases h₁ with ⟨X, led, res, ok, d₀, ax, its, rfl, hh, F, N, h0, h1, S, hsz, T, fin⟩
  refine hb9 ?_
  clear hb9 b9
  have hl := (S 0 d₀ h0).list F.keep N
  have hlt : ax < s₁.heap.objs.size := by obtain ⟨_, e, _⟩ := hl; exact Heap.lt_size e
  refine wpAny_pyIter_list hl ?_
  refine block_K (Walks.list hh s₁.heap.objs.size ax (Nat.ne_of_lt hlt) its) hsz (fun i h st => by obtain ⟨o, e, e2, e3⟩ := st.1; exact ⟨o, e, e2, _, _, e3⟩)
    (fun i h h' o d st e e' hk Nd hd => LCg.list_st i h h' o _ st e e' hk Nd (S i d hd)) hcf hpc hkind hx ⟨⟨_, Heap.get?_push_size _ rfl, rfl, rfl⟩, hl.push _⟩ (fun b hb => ?_)
    (F.keeps fun _ _ e => Heap.get?_push_of_some _ e) (N.grown fun _ _ e => Heap.get?_push_of_some _ e) (Nat.ne_of_lt F.ns.lt) (next_is_new F) (fun p hp => Nat.ne_of_lt (Heap.lt_size (N p hp).1)) h0 h1 T fun D C h' tk m' d F' N' o1 hn hC₀ _ hCL _ hCD offC hok => ?_
  · show b < (s₁.heap.push _).objs.size
    rw [Heap.size_push]
    rcases List.mem_cons.mp hb with rfl | hb
    · exact Nat.lt_succ_self _
    · rw [List.mem_singleton.mp hb]; exact Nat.lt_succ_of_lt hlt
  · show wpAny _ A (assign (.Name y py) env (.ref D)) _ _ _
    refine wpAny_assign_Name (wpAny_storeName_local hy F'.ns (fun h₂ hn₂ hs₂ => ?_) hp)
    have hL₀ : h₀.get? env.locals = none := Heap.get?_none_of_le F'.above
    have F₂ : Fr h₀ env.locals h₂ (fun z => if z = y then some (.ref D) else m z) := ⟨hn₂, fun b o e => hs₂.extBut b o (fun q => by have q' : b = env.locals := q; rw [q', hL₀] at e; cases e) (F'.keep b o e), F'.above⟩
    refine ⟨m', hn.sameBut hs₂ hCL, fun h'' hs'' => fin d hok D h'' _ (F₂.change hs'' hCL hC₀) (fun p hp => ?_) o1⟩
    have z : h₂.get? p.1 = some p.2 := hs₂.extBut _ _ (N' p hp).2.1 (N' p hp).1
    refine ⟨hs''.extBut _ _ ?_ z, (N' p hp).2⟩
    rcases List.mem_cons.mp hp with rfl | hp
    · exact Ne.symm hCD
    · exact offC p hp
end
end Lw
end
example : True := by k_with_none; w_top off; trivial
section
open PySem PySem.W PyProof.Rows
namespace Lw
example : True := by
  k_with_none
  k_with "omega" => ((fail_if_success (fail_if_success (omega (config := {})))); first | lia | omega (config := {}))
  k_with "callWith ref" => ((k_here; k_dflt (refine' callWith_K ?kAw90 ?kBw90 ?_; (case kAw90 => k_asm); (case kBw90 => k_is); k_whole)))
  k_with "eval Name" => ((k_here; (fail_if_success (with_reducible show wpAny _ _ (eval (Expr.Name _ _) (compEnvC _ _ _ _)) _ _ _)); k_dflt (first | (refine' nameX_L ?Fw91 ?vw91 ?_ ?aw91 ?bw91; (case bw91 => rfl); (case Fw91 => k_asm); (case aw91 => rfl); (case vw91 => rfl); k_whole) | (refine' nameX_C ?Nw92 ?cw92 ?mw92 ?dw92 ?_ ?aw92 ?bw92; (case bw92 => rfl); (case aw92 => rfl); (case Nw92 => k_asm); (case cw92 => rfl); (case mw92 => k_mem); (case dw92 => k_asm); k_whole) | (refine' nameX_K ?Fw93 ?Xw93 ?Tw93 ?ew93 ?_ ?aw93 ?bw93; (case bw93 => rfl); (case Fw93 => k_asm); (case Xw93 => k_asm); (case Tw93 => k_asm); (case aw93 => rfl); (case ew93 => k_is); k_whole) | (refine' nameX_B ?Fw94 ?Xw94 ?Tw94 ?ew94 ?vw94 ?nw94 ?_ ?aw94 ?bw94; (case bw94 => rfl); (case Fw94 => k_asm); (case Xw94 => k_asm); (case Tw94 => k_asm); (case aw94 => rfl); (case ew94 => k_is); (case vw94 => boot_fast); (case nw94 => decide); k_whole))))
  k_with "execs cons" => ((k_here; refine execs_G ?_; intro G9w hG9w))
  k_with "Go" => (((try dsimp only); first | (refine go_next_S (by with_reducible assumption) ?_; intro tSw) | refine go_ret (by with_reducible assumption) ?_ | refine go_cont (by with_reducible assumption) ?_ | refine go_brk (by with_reducible assumption) ?_))
  k_with "k_ne" => ((with_reducible first | assumption | exact Ne.symm (by assumption) | exact Nat.ne_of_lt (by assumption) | exact Ne.symm (Nat.ne_of_lt (by assumption)) | fail "k_ne"))
  k_with "ktr_room" => (first | exact room_a (by with_reducible assumption) rfl | exact room_b (by with_reducible assumption) rfl | exact room_c (by with_reducible assumption) rfl | fail "room")
  k_with "ktr_units" => (first | exact room_a (by with_reducible assumption) rfl | exact room_b (by with_reducible assumption) rfl | exact room_c (by with_reducible assumption) rfl | fail "room")
  trivial
open PySem.W.KStt (codes txt)
example : True := by
  k_with "k_room" => (ktr_room)
  k_with "k_all" => (first | with_reducible assumption | exact all_gt (by assumption) (by ((try dsimp only); omega)))
  k_with "k_mem" => (assumption)
  k_with "exec For Name IfExp cons nil" => ((k_here; k_dflt (refine For_S ?_)))
  k_with "exec Assign cons ListComp" => ((k_here; k_dflt (refine Assign_ListComp_TW (F₀ := by k_asm) (by rfl) (by with_unfolding_all rfl) (by with_unfolding_all rfl) (by decide) (by rfl) (by decide) (by rfl) (by rfl) (by rfl) ?_)))
  k_with "truthy ref" => ((k_here; k_dflt (refine wpAny_truthy_list (News.isList (by k_asm) (by k_mem)) (by simp only [List.size_toArray]; omega) ?_)))
  trivial
inductive FarJ (g : Heap) (m₀ : Str → Option Value) (cS cN : Addr) (oN : Obj) (news : List (Addr × Obj)) (y : Str) (cs : List Int) (i : Nat) (h₀ : Heap) (m : Str → Option Value) (nx : List (Addr × Obj)) : Prop
  | mk (zz1 : h₀ = g) (D c ys oS v : _) (zz2 : m = (fun z => if z = Str.ofString "places" then some (.ref D) else m₀ z)) (zz3 : nx = (D, ({ cls := .type "list", data := .seq (List.toArray ys) c } : Obj)) :: (cS, oS) :: (cN, oN) :: news) (zz4 : oS.data = .cell v) (zz5 : IntsAre ys (farRun y (cs.take i))) (zz6 : @Ne Nat D cS) (zz7 : (∀ p ∈ news, p.1 < cN)) : FarJ g m₀ cS cN oN news y cs i h₀ m nx
example : True := by
  k_with "call type:list" => ((k_here; (with_reducible show wpAny _ _ (call (Value.type _) [Value.ref _]) _ _ _); (with_reducible rename IsRange _ _ _ _ _ _ _ _ => rgX); k_dflt (refine list_range_N (by rfl) (by k_asm) (by k_asm) rgX (by omega) (by omega) ?_); intro D'w c'w h'w tk'w ys'w F'w N'w l1w hI'w))
  trivial
theorem item_ints {prog : Program} {w : World} {A : Around} {E : Value → Shared → Prop} {s : Shared} {h₀ : Heap} {L : Addr} {news : List (Addr × Obj)} {l : Addr} {ys : List Value} {ns : List Int} {c j : Nat} {k : Int} {t : Tok} {value slice : PySem.Expr} {Q : Value → Shared → Prop} (N : News h₀ L s.heap news) (hm : (l, ({ cls := .type "list", data := .seq (List.toArray ys) c } : Obj)) ∈ news) (hi : IntsAre ys ns) (hn : ns.length ≤ 5000) (hj : PlaceOf k ns.length j)
    (h : ∀ n t, ns[j]? = some n → Q (.int n t) s)
    (hs : subscripted slice false (.ref l) (.int k t) = operate [.ref l, .int k t] (getItem (.ref l) (.int k t)) := by with_unfolding_all rfl) :
    wpAny (model prog w) A (subscriptTail value slice (.ref l) (.int k t)) Q E s := by
  have ho := (N _ hm).1
  have hl : s.heap.IsList l ys.toArray := ⟨_, ho, rfl, c, rfl⟩
  have hlt := hj.lt
  obtain ⟨u, hu⟩ := hi.get j _ (List.getElem?_eq_getElem hlt)
  have hsz : ys.toArray.size = ns.length := by rw [List.size_toArray, hi.length]
  exact tail_any hl.typeIs slot_list_getitem.lookup (getItem_seq ho (by rw [hsz]; exact hn) (by rw [hsz]; exact hj) (by simpa using hu) (h _ _ (List.getElem?_eq_getElem hlt))) hs
theorem sub_tail {P : List (Addr × Obj)} {a b c d : Addr × Obj} {all : List (Addr × Obj)} (h1 : a ∈ all) (h2 : b ∈ all) (h3 : c ∈ all) (h4 : d ∈ all) (h5 : ∀ p ∈ P, p ∈ all) : ∀ p ∈ a :: b :: c :: d :: P, p ∈ all := fun p hp => by
  rcases List.mem_cons.mp hp with rfl | hp
  · exact h1
  rcases List.mem_cons.mp hp with rfl | hp
  · exact h2
  rcases List.mem_cons.mp hp with rfl | hp
  · exact h3
  rcases List.mem_cons.mp hp with rfl | hp
  · exact h4
  · exact h5 p hp
theorem filter_take {ks : List Int} {p : Int → Bool} {j : Nat} {k : Int} (h : ks[j]? = some k) : ((ks.take (j + 1)).filter p).map (· + 1) = ((ks.take j).filter p).map (· + 1) ++ (if p k = true then [k + 1] else []) := by
  have : ks.take (j + 1) = ks.take j ++ [k] := by rw [List.take_add_one, h]; rfl
  rw [this, List.filter_append, List.map_append]
  cases c : p k <;> simp [c]
theorem lt_mem {l : List (Addr × Obj)} {D : Addr} {p : Addr × Obj} (h : ∀ q ∈ l, q.1 < D) (hp : p ∈ l) : @LT.lt Nat instLTNat p.1 D := h p hp
theorem far_turn {g h' : Heap} {L I D D' cS cN : Addr} {c' : Nat} {oI oS oS0 oN oD : Obj} {v : Option Value} {ys' : List Value} {all news : List (Addr × Obj)} {y : Str} {cs : List Int} {i : Nat} {m₀ : Str → Option Value} {Q : Flow → Shared → Prop} {s : Shared} {tk' : Tok}
    (F : Fr g L h' (fun z => if z = Str.ofString "places" then some (.ref D') else if z = Str.ofString "places" then some (.ref D) else m₀ z)) (N : News g L h' all) (hs : ∀ p ∈ (I, oI) :: (D', ({ cls := .type "list", data := .seq (List.toArray ys') c' } : Obj)) :: (cS, oS) :: (cN, oN) :: news, p ∈ all)
    (off : ∀ p ∈ (D, oD) :: (cS, oS0) :: (cN, oN) :: news, p.1 ≠ I) (hDI : @Ne Nat D' I) (hv : oS.data = .cell v) (hI : IntsAre ys' (farRun y (cs.take (i + 1)))) (hD : @Ne Nat D' cS) (hl : ∀ p ∈ news, p.1 < cN) :
    TurnPost L I oI (FarJ g m₀ cS cN oN news y cs (i + 1)) Q s .next { s with heap := h', toks := tk' } :=
  Back.intro F N hs (fun p hp => by
    rcases List.mem_cons.mp hp with rfl | hp
    · exact hDI
    rcases List.mem_cons.mp hp with rfl | hp
    · exact off (cS, oS0) (.tail _ (.head _))
    · exact off p (.tail _ (.tail _ hp))) ⟨rfl, D', c', ys', oS, v, funext fun z => by by_cases q : z = Str.ofString "places" <;> simp [q], rfl, hv, hI, hD, hl⟩
theorem star_eq {q : Nat} (h : (({ cps := #[q] } : Str) == Str.ofString "*") = true) : q = 42 := by
  have e : Str.ofString "*" = ⟨#[42]⟩ := by decide +kernel
  rw [e] at h
  simpa using h
theorem star_ne {q : Nat} (h : (({ cps := #[q] } : Str) == Str.ofString "*") = false) : q ≠ 42 := fun e => by
  subst e
  revert h
  decide +kernel
theorem code_at {x : Str} {i q : Nat} (h : x.cps[i]? = some q) : (codes x)[i]? = some (q : Int) := by
  unfold PySem.W.KStt.codes
  simp [h]
namespace Fc
noncomputable def S0 (prog : Program) (w : World) (news : List (Addr × Obj)) (x y : Str) (t u : Tok) (p : Program) (loose : List Str) (mean : ExcName → Option Value) (mg : Str → Option Value) (mb : Str → Option Value) (dp : Nat) (un : Nat) (gd : Option (List Code)) (cn : Str) (cnm : List (Str × NameKind)) (cig : Bool) (cic : Bool) (cmo : List (Str × Const)) (a : Addr) (ccd : Value) (cl : List (Str × Addr)) (outer : List Env) (A₀ : Around) (base : Heap) (h₀ : Heap) (L : Addr) (m : Str → Option Value) (s : Shared) (Q : Value → Shared → Prop) (E : Value → Shared → Prop) : Prop :=
  x.length ≤ 1000 → y.length ≤ 1000 → 
  Comesv prog w 3 40 142 news [.str x t, .str y u] (fun v nw => nw = [] ∧ ∃ t', v = .int (farF y x) t') p loose mean mg mb dp un gd cn ⟨.function, cnm, cig, cic, cmo⟩ a ccd cl outer A₀ base h₀ L m s Q E
noncomputable def P0 (x : Program × World × (List (Addr × Obj)) × Str × Str × Tok × Tok × Program × List Str × (ExcName → Option Value) × (Str → Option Value) × (Str → Option Value) × Nat × Nat × Option (List Code) × Str × (List (Str × NameKind)) × Bool × Bool × (List (Str × Const)) × Addr × Value × (List (Str × Addr)) × List Env × Around × Heap × Heap × Addr × (Str → Option Value) × Shared × (Value → Shared → Prop) × (Value → Shared → Prop)) : Prop := S0 x.1 x.2.1 x.2.2.1 x.2.2.2.1 x.2.2.2.2.1 x.2.2.2.2.2.1 x.2.2.2.2.2.2.1 x.2.2.2.2.2.2.2.1 x.2.2.2.2.2.2.2.2.1 x.2.2.2.2.2.2.2.2.2.1 x.2.2.2.2.2.2.2.2.2.2.1 x.2.2.2.2.2.2.2.2.2.2.2.1 x.2.2.2.2.2.2.2.2.2.2.2.2.1 x.2.2.2.2.2.2.2.2.2.2.2.2.2.1 x.2.2.2.2.2.2.2.2.2.2.2.2.2.2.1 x.2.2.2.2.2.2.2.2.2.2.2.2.2.2.2.1 x.2.2.2.2.2.2.2.2.2.2.2.2.2.2.2.2.1 x.2.2.2.2.2.2.2.2.2.2.2.2.2.2.2.2.2.1 x.2.2.2.2.2.2.2.2.2.2.2.2.2.2.2.2.2.2.1 x.2.2.2.2.2.2.2.2.2.2.2.2.2.2.2.2.2.2.2.1 x.2.2.2.2.2.2.2.2.2.2.2.2.2.2.2.2.2.2.2.2.1 x.2.2.2.2.2.2.2.2.2.2.2.2.2.2.2.2.2.2.2.2.2.1 x.2.2.2.2.2.2.2.2.2.2.2.2.2.2.2.2.2.2.2.2.2.2.1 x.2.2.2.2.2.2.2.2.2.2.2.2.2.2.2.2.2.2.2.2.2.2.2.1 x.2.2.2.2.2.2.2.2.2.2.2.2.2.2.2.2.2.2.2.2.2.2.2.2.1 x.2.2.2.2.2.2.2.2.2.2.2.2.2.2.2.2.2.2.2.2.2.2.2.2.2.1 x.2.2.2.2.2.2.2.2.2.2.2.2.2.2.2.2.2.2.2.2.2.2.2.2.2.2.1 x.2.2.2.2.2.2.2.2.2.2.2.2.2.2.2.2.2.2.2.2.2.2.2.2.2.2.2.1 x.2.2.2.2.2.2.2.2.2.2.2.2.2.2.2.2.2.2.2.2.2.2.2.2.2.2.2.2.1 x.2.2.2.2.2.2.2.2.2.2.2.2.2.2.2.2.2.2.2.2.2.2.2.2.2.2.2.2.2.1 x.2.2.2.2.2.2.2.2.2.2.2.2.2.2.2.2.2.2.2.2.2.2.2.2.2.2.2.2.2.2.1 x.2.2.2.2.2.2.2.2.2.2.2.2.2.2.2.2.2.2.2.2.2.2.2.2.2.2.2.2.2.2.2
noncomputable def k0 : Program × World × (List (Addr × Obj)) × Str × Str × Tok × Tok × Program × List Str × (ExcName → Option Value) × (Str → Option Value) × (Str → Option Value) × Nat × Nat × Option (List Code) × Str × (List (Str × NameKind)) × Bool × Bool × (List (Str × Const)) × Addr × Value × (List (Str × Addr)) × List Env × Around × Heap × Heap × Addr × (Str → Option Value) × Shared × (Value → Shared → Prop) × (Value → Shared → Prop) := henk (qv, aWorld 1, [], default, default, default, default, qv, [], fun _ => none, fun _ => none, fun _ => none, 0, 0, none, default, [], false, false, [], 0, .none, [], [], hen_a, default, default, 0, fun _ => none, hen_s, fun _ _ => True, fun _ _ => True) P0
@[irreducible] noncomputable def prog : Program := k0.1
@[irreducible] noncomputable def w : World := k0.2.1
@[irreducible] noncomputable def news : List (Addr × Obj) := k0.2.2.1
@[irreducible] noncomputable def x : Str := k0.2.2.2.1
@[irreducible] noncomputable def y : Str := k0.2.2.2.2.1
@[irreducible] noncomputable def t : Tok := k0.2.2.2.2.2.1
@[irreducible] noncomputable def u : Tok := k0.2.2.2.2.2.2.1
@[irreducible] noncomputable def p : Program := k0.2.2.2.2.2.2.2.1
@[irreducible] noncomputable def loose : List Str := k0.2.2.2.2.2.2.2.2.1
@[irreducible] noncomputable def mean : ExcName → Option Value := k0.2.2.2.2.2.2.2.2.2.1
@[irreducible] noncomputable def mg : Str → Option Value := k0.2.2.2.2.2.2.2.2.2.2.1
@[irreducible] noncomputable def mb : Str → Option Value := k0.2.2.2.2.2.2.2.2.2.2.2.1
@[irreducible] noncomputable def dp : Nat := k0.2.2.2.2.2.2.2.2.2.2.2.2.1
@[irreducible] noncomputable def un : Nat := k0.2.2.2.2.2.2.2.2.2.2.2.2.2.1
@[irreducible] noncomputable def gd : Option (List Code) := k0.2.2.2.2.2.2.2.2.2.2.2.2.2.2.1
@[irreducible] noncomputable def cn : Str := k0.2.2.2.2.2.2.2.2.2.2.2.2.2.2.2.1
@[irreducible] noncomputable def cnm : List (Str × NameKind) := k0.2.2.2.2.2.2.2.2.2.2.2.2.2.2.2.2.1
@[irreducible] noncomputable def cig : Bool := k0.2.2.2.2.2.2.2.2.2.2.2.2.2.2.2.2.2.1
@[irreducible] noncomputable def cic : Bool := k0.2.2.2.2.2.2.2.2.2.2.2.2.2.2.2.2.2.2.1
@[irreducible] noncomputable def cmo : List (Str × Const) := k0.2.2.2.2.2.2.2.2.2.2.2.2.2.2.2.2.2.2.2.1
@[irreducible] noncomputable def a : Addr := k0.2.2.2.2.2.2.2.2.2.2.2.2.2.2.2.2.2.2.2.2.1
@[irreducible] noncomputable def ccd : Value := k0.2.2.2.2.2.2.2.2.2.2.2.2.2.2.2.2.2.2.2.2.2.1
@[irreducible] noncomputable def cl : List (Str × Addr) := k0.2.2.2.2.2.2.2.2.2.2.2.2.2.2.2.2.2.2.2.2.2.2.1
@[irreducible] noncomputable def outer : List Env := k0.2.2.2.2.2.2.2.2.2.2.2.2.2.2.2.2.2.2.2.2.2.2.2.1
@[irreducible] noncomputable def A₀ : Around := k0.2.2.2.2.2.2.2.2.2.2.2.2.2.2.2.2.2.2.2.2.2.2.2.2.1
@[irreducible] noncomputable def base : Heap := k0.2.2.2.2.2.2.2.2.2.2.2.2.2.2.2.2.2.2.2.2.2.2.2.2.2.1
@[irreducible] noncomputable def h₀ : Heap := k0.2.2.2.2.2.2.2.2.2.2.2.2.2.2.2.2.2.2.2.2.2.2.2.2.2.2.1
@[irreducible] noncomputable def L : Addr := k0.2.2.2.2.2.2.2.2.2.2.2.2.2.2.2.2.2.2.2.2.2.2.2.2.2.2.2.1
@[irreducible] noncomputable def m : Str → Option Value := k0.2.2.2.2.2.2.2.2.2.2.2.2.2.2.2.2.2.2.2.2.2.2.2.2.2.2.2.2.1
@[irreducible] noncomputable def s : Shared := k0.2.2.2.2.2.2.2.2.2.2.2.2.2.2.2.2.2.2.2.2.2.2.2.2.2.2.2.2.2.1
@[irreducible] noncomputable def Q : Value → Shared → Prop := k0.2.2.2.2.2.2.2.2.2.2.2.2.2.2.2.2.2.2.2.2.2.2.2.2.2.2.2.2.2.2.1
@[irreducible] noncomputable def E : Value → Shared → Prop := k0.2.2.2.2.2.2.2.2.2.2.2.2.2.2.2.2.2.2.2.2.2.2.2.2.2.2.2.2.2.2.2
theorem main : S0 prog w news x y t u p loose mean mg mb dp un gd cn cnm cig cic cmo a ccd cl outer A₀ base h₀ L m s Q E := by
  unfold S0 Comesv
  intro hx hy B F X N T hk hd hu hret
  refine wpAny_call ?_
  k_enter
  k_steps
  show wpAny _ _ _ _ _ _
  refine cut_val (fun v => ∃ t1, v = .str (wholeF x) t1) ?_ ?_
  · k_steps
    · exact ⟨⟨_, congrArg (Value.str · _) (whole_no (by assumption)).symm⟩, _, rfl⟩
    · exact ⟨⟨_, congrArg (Value.str · _) (whole_yes (by assumption)).symm⟩, _, rfl⟩
  rintro v tk1 ⟨t1, rfl⟩
  refine pyIter_str_led fun oI St hW hIo hst => ?_
  (with_reducible rename Fr _ _ _ _ => F1; with_reducible rename News _ _ _ _ => N1); (have hlL : ∀ p ∈ news, p.1 < frL F1 := by assumption)
  refine for_led (L := frL F1) (FarJ (frBase F1) _ (frL F1 + 1 + 1) (frL F1 + 1) _ news y (codes (wholeF x))) (hW _ rfl) (fun _ => True) (fun i h st => (hIo i h st).imp fun _ e => ⟨e, trivial⟩) (fun i j h h' o h₀ m nx st e e' _ _ _ => (hW callerA rfl).frame i h h' st fun b hb ob hob => by
      rw [List.mem_singleton.mp hb] at hob ⊢
      rw [e'] ; rw [e] at hob; exact hob) (fun _ => rfl) ?turn ?done (F1.push _) (fun p hp => ⟨Heap.get?_push_of_some _ (N1 p hp).1, (N1 p hp).2⟩) (Ne.symm (Nat.ne_of_lt F1.ns.lt)) (next_is_new F1) (fun p hp => Nat.ne_of_lt (Heap.lt_size (N1 p hp).1)) hst ⟨rfl, _, _, _, _, _, rfl, rfl, by assumption, IntsAre.cons _ _ .nil, by (refine neN ?_; dsimp only [frL]; omega), fun p hp => Nat.lt_succ_of_lt (hlL p hp)⟩
  case turn =>
    intro i v oI2 h₀2 m2 nx2 h2 tk2 E2 hi hv _ F2 N2 off2 hj
    refine hideG ?_
    intro b9 hb9
    rcases hj with ⟨rfl, D, c, ys, oS, vS, rfl, rfl, hoS, hys, hDc, hlc⟩
    rcases hv with ⟨q, tq, hq, rfl⟩
    refine hb9 ?_
    clear hb9 b9
    dsimp only [frBase, frL, frMap] at F2 N2 off2 hDc hlc ⊢
    have hyk := farRun_ok y ((codes (wholeF x)).take i)
    have hyl : ys.length ≤ 1001 := by rw [hys.length]; omega
    have hrn := farRun_take (y := y) (code_at hq)
    generalize farRun y ((codes (wholeF x)).take i) = ks at hys hyk hrn
    have of1 := neN (off2 _ (.head _))
    have of2 := neN (off2 _ (.tail _ (.head _)))
    have of3 := neN (off2 _ (.tail _ (.tail _ (.head _))))
    clear N1 hst
    (k_with "subscriptTail Name Constant ref int" => ((fail_if_success (have z9 := hk0)); refine stopAt0 ?_))
    k_steps
    · obtain ⟨rfl, rfl⟩ := intsAre_nil hys (by simp_all)
      exact far_turn (by assumption) (by assumption) (by refine sub_tail (by k_mem) (by k_mem) (by k_mem) (by k_mem) ?_; intro p hp; repeat (first | exact hp | apply List.Mem.tail)) off2 (by refine neN ?_; (try dsimp only); omega) (by assumption) (by rw [hrn, star_eq (q := q) (by assumption)]; exact .nil) (by refine neN ?_; (try dsimp only); omega) hlc
    · show wpAny _ _ _ _ _ _
      obtain ⟨k0, t0, ys', ns', rfl, rfl, hys'⟩ := intsAre_cons hys (by simp_all)
      have hk0 := hyk.1 k0 (.head _)
      k_steps
      (with_reducible rename IsRange _ _ _ _ _ _ _ _ => rgX)
      have rgY : IsRange _ _ k0 (y.length + 1) 1 _ _ _ := rgX
      refine list_range_N (by rfl) (by k_asm) (by k_asm) rgY (by omega) (by omega) ?_
      intro D' c' h' tk' ys2 F' N' l1 hI'
      have l2 := lt_mem l1 (.head _)
      have l3 := lt_mem l1 (.tail _ (.tail _ (.head _)))
      k_steps
      exact far_turn (by assumption) (by assumption) (by refine sub_tail (by k_mem) (by k_mem) (by k_mem) (by k_mem) ?_; intro p hp; repeat (first | exact hp | apply List.Mem.tail)) off2 (by refine neN ?_; (try dsimp only); omega) (by assumption) (by rw [hrn, star_eq (q := q) (by assumption)]; assumption) (by refine neN ?_; (try dsimp only); omega) hlc
    · show LCt.CompSrcT _ _ _ _ _ _ _ _ _ _ _ _ _ _ _
      refine LCt.CompSrcT.ledger (by rfl) (by k_asm) (by k_asm) (by k_mem) (by rw [List.size_toArray]; size_fits) ?_
      intro g9
      refine restT_inv (fun j zs => IntsAre zs (((ks.take j).filter fun p => decide ((y.cps[p.toNat]?).map Int.ofNat = some (q : Int))).map (· + 1))) ?_ ?_ _ 0 [] (Nat.zero_add _) .nil
      · intro j v hj hP zs hzs I' oI' C' oC' D' m' h' tk' E' hC' hx' F' N' off' ne'
        refine hideG ?_
        intro b9 hb9
        rcases IntsAre.at hys j v (by simpa using hP) with ⟨k, u', rfl, hk⟩
        refine hb9 ?_
        clear hb9 b9
        have hkb := hyk.1 k (List.mem_of_getElem? hk)
        k_steps
        · refine LCg.CompEnd.intro (by assumption) (by assumption) _ (fun p hp => hp) (by assumption) (Or.inr ⟨_, by k_mem, rfl, _, rfl⟩) ⟨rfl, ?_⟩
          rw [filter_take hk, if_pos (by rw [← slice_sign hkb.1]; assumption)]
          exact hzs.append (.cons _ _ .nil)
        · refine LCg.CompEnd.intro (by assumption) (by assumption) _ (fun p hp => hp) (by assumption) (Or.inr ⟨_, by k_mem, rfl, _, rfl⟩) ⟨rfl, ?_⟩
          rw [filter_take hk, if_neg (by rw [← slice_sign hkb.1]; simp_all), List.append_nil]
          exact hzs
      · intro zs hzs D' h' tk' F' N' o1'
        rw [List.take_of_length_le (by rw [List.size_toArray, hys.length]; exact Nat.le_refl _)] at hzs
        k_steps
        simp only [LCg.Off1] at o1'
        exact far_turn (by assumption) (by assumption) (by refine sub_tail (by k_mem) (by k_mem) (by k_mem) (by k_mem) ?_; intro p hp; repeat (first | exact hp | apply List.Mem.tail)) off2 (by refine neN ?_; (try dsimp only); omega) (by assumption) (by rw [hrn]; unfold farStep; rw [if_neg (by have := star_ne (q := q) (by assumption); omega)]; exact hzs) (by refine neN ?_; (try dsimp only); omega) hlc
  intro h₀2 m2 nx2 h2 tk2 F2 N2 hj
  refine hideG ?_
  intro b9 hb9
  rcases hj with ⟨rfl, D, c, ys, oS, vS, rfl, rfl, hoS, hys, hDc, hlc⟩
  refine hb9 ?_
  clear hb9 b9
  have hyk := farRun_ok y (codes (wholeF x))
  rw [List.take_of_length_le (by simp [PySem.W.KStt.codes])] at hys
  have hyl : ys.length ≤ 1001 := by rw [hys.length]; omega
  dsimp only [frBase, frL, frMap] at F2 N2
  clear N1
  have hne : ∀ ks : List Int, IntsAre ys ks → ys.toArray.isEmpty = false → PlaceOf (-1) ks.length (ks.length - 1) := fun ks h e => by
    have : 0 < ks.length := by
      cases h with
      | nil => simp at e
      | cons n t h => simp
    exact .inr ⟨by omega, by omega, by omega⟩
  (k_with "subscriptTail Name UnaryOp ref int" => (k_here; refine item_ints (by k_asm) (by k_mem) hys (by omega) (hne _ hys (by assumption)) ?_; intro nL tL hL))
  k_steps
  · obtain ⟨rfl, e0⟩ := intsAre_nil hys (by simp_all)
    refine hret _ [] _ _ ⟨rfl, _, congrArg (Value.int · _) ?_⟩ (by assumption) (KStt.news_of (by assumption) fun p hp => .tail _ (.tail _ (.tail _ hp)))
    unfold farF
    rw [e0]
    rfl
  · refine hret _ [] _ _ ⟨rfl, _, congrArg (Value.int · _) ?_⟩ (by assumption) (KStt.news_of (by assumption) fun p hp => .tail _ (.tail _ (.tail _ hp)))
    unfold farF
    rw [List.getLast?_eq_getElem?, hL]
    rfl
end Fc
theorem far_call (prog : Program) (w : World) (news : List (Addr × Obj)) (x y : Str) (t u : Tok) (hx : x.length ≤ 1000) (hy : y.length ≤ 1000) :
    Comes prog w 3 40 142 news [.str x t, .str y u] (fun v nw => nw = [] ∧ ∃ t', v = .int (farF y x) t') := by
  intro p loose mean mg mb dp un gd cn cs a ccd cl outer A₀ base h₀ L m s Q E B F X N T hk
  obtain ⟨ck, cnm, cig, cic, cmo⟩ := cs
  cases hk
  exact henk_all (P := Fc.P0) (by with_unfolding_all exact Fc.main) (prog, w, news, x, y, t, u, p, loose, mean, mg, mb, dp, un, gd, cn, cnm, cig, cic, cmo, a, ccd, cl, outer, A₀, base, h₀, L, m, s, Q, E) hx hy B F X N T rfl
end Lw
end
example : True := by k_with_none; w_top off; trivial
section
open PySem PySem.W PyProof.Rows PySem.Calls
namespace Lw
section
variable {prog : Program} {w : World} {A : Around} {E : Value → Shared → Prop} {s : Shared} {K : Frag} {x C : Addr} {ox : Obj} {es : List DictEntry} {n : Nat} {name : Str} {pl : Sem Bool} {Q : Value × List Value → Shared → Prop}
theorem findObj_shadow {o : Obj} {f : Addr} {v gf : Value} (hh : hasDictIn K C = true) (ha : findIn K (.ref C) name = some (some (.ref f))) (hg : specialIn K (.ref f) "__get__" = some (some gf)) (ht : takesIn K (.ref f) = some false) (hl : lookIn name o = some (some v)) : findObj K C (some o) name = some (.value v) := by
  obtain ⟨cd, hc, hd⟩ := any_some hh
  unfold findObj
  rw [hc, Option.bind_some, ha, Option.bind_some]
  simp only [hg, Option.bind_some, ht]
  unfold PySem.W.ownOf
  rw [hd]
  simp [hl]
theorem method_shadow {g : Addr} {v : Value} (X : K.In s.heap) (I : InstAt s.heap x ox C (some (dictOf es n))) (hga : findIn K (.ref C) "__getattribute__" = some (some (.builtin "object.__getattribute__"))) (hk : findIn K (.ref C) "__getattr__" = some none)
    (hf : findIn K (.ref C) name = some (some (.ref g))) (ht : typeIn K (.ref g) = some (.type "function")) (hl : getL name es = some (some v)) (hhd : hasDictIn K C = true) (hgt : specialIn K (.ref g) "__get__" = some (some (.builtin "function.__get__"))) (hta : takesIn K (.ref g) = some false) (hh : handedIn v = true) (h : Q (v, []) { s with toks := s.toks + 1 }) :
    wpAny (model prog w) A (getMethod (.ref x) name pl) Q E s := by
  have ho : findObj K C (some (dictOf es n)) name = some (.value v) := findObj_shadow hhd hf hgt hta (by rw [lookIn_dict, hl])
  have hcan := PySem.F.canon_object_ga
  unfold getMethod specialOf
  refine wpAny_bind (wpAny_bind (I.type.here ((looks_findIn X hga).here ?_)))
  dsimp only
  rw [hcan, if_neg (by decide)]
  refine wpAny_bind (wpAny_bind (I.type.here ((looks_findIn X hk).here ?_)))
  refine wpAny_bind (wpAny_bind (I.type.here ((looks_findIn X hf).here (wpAny_bind ((looks_typeIn X ht).here ?_)))))
  rw [if_neg (by decide +kernel)]
  refine wpAny_bind (wpAny_loadPart I.at_ ?_)
  have hd := I.dict
  cases e : ox.dict with
  | none => rw [e] at hd; cases hd
  | some dx =>
    rw [e] at hd
    refine wpAny_bind (wpAny_bind (wpAny_loadPart hd ?_))
    have a : lookIn name (dictOf es n) = some (some v) := by rw [lookIn_dict, hl]
    rw [nsLook_of a]
    refine wpAny_pure ?_
    exact wpAny_bind (get_value X I hga ho hh (wpAny_pure h))
end
end Lw
end
example : True := by k_with_none; w_top off; trivial
section
open PySem PySem.W PyProof.Rows
namespace Lw
example : True := by
  k_with_none
  k_with "omega" => ((fail_if_success (fail_if_success (omega (config := {})))); first | lia | omega (config := {}))
  k_with "callWith ref" => ((k_here; k_dflt (refine' callWith_K ?kAw90 ?kBw90 ?_; (case kAw90 => k_asm); (case kBw90 => k_is); k_whole)))
  k_with "eval Name" => ((k_here; (fail_if_success (with_reducible show wpAny _ _ (eval (Expr.Name _ _) (compEnvC _ _ _ _)) _ _ _)); k_dflt (first | (refine' nameX_L ?Fw91 ?vw91 ?_ ?aw91 ?bw91; (case bw91 => rfl); (case Fw91 => k_asm); (case aw91 => rfl); (case vw91 => rfl); k_whole) | (refine' nameX_C ?Nw92 ?cw92 ?mw92 ?dw92 ?_ ?aw92 ?bw92; (case bw92 => rfl); (case aw92 => rfl); (case Nw92 => k_asm); (case cw92 => rfl); (case mw92 => k_mem); (case dw92 => k_asm); k_whole) | (refine' nameX_K ?Fw93 ?Xw93 ?Tw93 ?ew93 ?_ ?aw93 ?bw93; (case bw93 => rfl); (case Fw93 => k_asm); (case Xw93 => k_asm); (case Tw93 => k_asm); (case aw93 => rfl); (case ew93 => k_is); k_whole) | (refine' nameX_B ?Fw94 ?Xw94 ?Tw94 ?ew94 ?vw94 ?nw94 ?_ ?aw94 ?bw94; (case bw94 => rfl); (case Fw94 => k_asm); (case Xw94 => k_asm); (case Tw94 => k_asm); (case aw94 => rfl); (case ew94 => k_is); (case vw94 => boot_fast); (case nw94 => decide); k_whole))))
  k_with "execs cons" => ((k_here; refine execs_G ?_; intro G9w hG9w))
  k_with "Go" => (((try dsimp only); first | (refine go_next_S (by with_reducible assumption) ?_; intro tSw) | refine go_ret (by with_reducible assumption) ?_ | refine go_cont (by with_reducible assumption) ?_ | refine go_brk (by with_reducible assumption) ?_))
  k_with "k_ne" => ((with_reducible first | assumption | exact Ne.symm (by assumption) | exact Nat.ne_of_lt (by assumption) | exact Ne.symm (Nat.ne_of_lt (by assumption)) | fail "k_ne"))
  k_with "ktr_room" => (first | exact room_a (by with_reducible assumption) rfl | exact room_b (by with_reducible assumption) rfl | exact room_c (by with_reducible assumption) rfl | fail "room")
  k_with "ktr_units" => (first | exact room_a (by with_reducible assumption) rfl | exact room_b (by with_reducible assumption) rfl | exact room_c (by with_reducible assumption) rfl | fail "room")
  k_with "k_room" => (ktr_room)
  k_with "k_all" => (first | with_reducible assumption | exact all_gt (by assumption) (by ((try dsimp only); omega)))
  k_with "k_mem" => (assumption)
  trivial
theorem all_gtT {news : List (Addr × Obj)} {L d : Addr} (l : AllLt L news) (h : @LE.le Nat instLENat L d) : ∀ p ∈ news, p.1 ≠ d := by
  induction news with
  | nil => exact fun p hp => nomatch hp
  | cons a r ih =>
    intro p hp
    rcases List.mem_cons.mp hp with rfl | hp
    · exact Nat.ne_of_lt (Nat.lt_of_lt_of_le l.1 h)
    · exact ih l.2 p hp
example : True := by
  k_with "k_all" => (exact all_gtT (by assumption) (by ((try dsimp only); omega)))
  trivial
theorem flat_int {x : Str} {D : List (PyData × PyData)} {r : Int} {v : Value} {d : PyData} (hl : Spec.lookup (PyData.str x) D = some (.int r)) (h : PyProof.V.Flat v ((Spec.lookup (PyData.str x) D).getD d)) : ∃ u, v = .int r u := by
  rw [hl] at h
  cases h default
  exact ⟨_, rfl⟩
noncomputable def AskC (prog : Program) (w : World) (f : Addr) (fs : List (Addr × Obj)) (j : Int) (tj : Tok) (rt nt : Addr) : Prop :=
  (∃ fo fd, (f, fo) ∈ fs ∧ fo.data = .func fd) ∧ ∀ (p : Program) (loose : List Str) (mean : ExcName → Option Value) (mg mb : Str → Option Value) (dp un : Nat) (gd : Option (List Code)) (env : Env) (outer : List Env) (A₀ : Around)
    (base h₀ : Heap) (L : Addr) (m : Str → Option Value) (s : Shared) (Q E : Value → Shared → Prop) (news : List (Addr × Obj)) (ns : Array Value) (c : Nat) (tob : Obj) (DT : List (PyData × PyData)) (x : Str) (t : Tok) (r : Int),
    Below A₀ base outer h₀ → Fr h₀ L s.heap m → (hd.heap_1 w.params).In h₀ → News h₀ L s.heap ((nt, ({ cls := .type "list", data := .seq ns c } : Obj)) :: news) → (∀ p ∈ news, p.1 ≠ nt) → (∀ p ∈ fs, p ∈ news) → (rt, tob) ∈ news → (∀ h : Heap, h.get? rt = some tob → StrTab prog w h rt DT) → Spec.lookup (PyData.str x) DT = some (.int r) → ns.size ≤ 1000 → Top p loose mean mg mb h₀ →
    env.frame = some L → env.scope.kind = .function → dp + 3 < recursionLimit → un + 40 < cLine →
    (∀ T h' tk' u, Fr h₀ L h' m → News h₀ L h' ((nt, ({ cls := .type "list", data := .seq (ns.push (.ref T)) (c + 1) } : Obj)) :: (T, ({ cls := .type "tuple", data := .seq #[.int j tj, .str x t] } : Obj)) :: news) → T ≠ nt → (∀ p ∈ news, p.1 ≠ T) → Q (.int (r + 1) u) { s with heap := h', toks := tk' }) →
    wpAny (model prog w) { handled := none, depth := dp, frames := some (env :: outer), guards := gd, units := un } (call (.ref f) [.str x t]) Q E s
noncomputable abbrev tbOf {g h : Heap} {L : Addr} {p0 p1 p2 p3 p4 p5 p6 p7 p8 p9 : Addr × Obj} {l : List (Addr × Obj)} (_ : News g L h (p0 :: p1 :: p2 :: p3 :: p4 :: p5 :: p6 :: p7 :: p8 :: p9 :: l)) : List (Addr × Obj) := [p1, p9]
noncomputable abbrev tbOf2 {g h : Heap} {L : Addr} {p0 p1 p2 p3 p4 p5 p6 p7 p8 p9 : Addr × Obj} {l : List (Addr × Obj)} (_ : News g L h (p0 :: p1 :: p2 :: p3 :: p4 :: p5 :: p6 :: p7 :: p8 :: p9 :: l)) : List (Addr × Obj) := [p8, p9]
noncomputable abbrev fsOf2 {g h : Heap} {L : Addr} {p0 p1 p2 p3 p4 p5 p6 p7 p8 : Addr × Obj} {l : List (Addr × Obj)} (_ : News g L h (p0 :: p1 :: p2 :: p3 :: p4 :: p5 :: p6 :: p7 :: p8 :: l)) : List (Addr × Obj) := [p0, p8, p5, p6, p7]
noncomputable abbrev fsOf {g h : Heap} {L : Addr} {p0 p1 p2 p3 p4 p5 p6 p7 p8 : Addr × Obj} {l : List (Addr × Obj)} (_ : News g L h (p0 :: p1 :: p2 :: p3 :: p4 :: p5 :: p6 :: p7 :: p8 :: l)) : List (Addr × Obj) := [p0, p1, p6, p7, p8]
noncomputable def TabB (tb : List (Addr × Obj)) : Prop :=
  tb = [(156, tabObj #[])] ∨ ∃ c oc vs t, tb = [(c, oc), (156, tabObj (#[] ++ #[rawInt ((183 : Nat) : Int), rawInt ((4 : Nat) : Int), .ref c]))] ∧ oc.data = .fields vs ∧ vs[1]? = some (.str (Str.ofString "_law_rule.<locals>._law_asked") t)
noncomputable def ruleD (P : Params) (U RL f : Addr) (v : Value) (t1 t2 t3 t4 t5 t6 : Tok) : Obj := dictOf [⟨PyData.keyHash P (Str.ofString "useragents"), .str (Str.ofString "useragents") t1, .ref U⟩, ⟨PyData.keyHash P (Str.ofString "rulelines"), .str (Str.ofString "rulelines") t2, .ref RL⟩,
  ⟨PyData.keyHash P (Str.ofString "delay"), .str (Str.ofString "delay") t3, .none⟩, ⟨PyData.keyHash P (Str.ofString "req_rate"), .str (Str.ofString "req_rate") t4, .none⟩, ⟨PyData.keyHash P (Str.ofString "applies_to"), .str (Str.ofString "applies_to") t5, .ref f⟩, ⟨PyData.keyHash P (Str.ofString "allowance"), .str (Str.ofString "allowance") t6, v⟩] 6
inductive RuleOut (prog : Program) (w : World) (tb₀ rest : List (Addr × Obj)) (j : Int) (tj : Tok) (v : Value) (rt nt : Addr) (val : Value) (nw : List (Addr × Obj)) : Prop
  | mk (x d U RL f t1 t2 t3 t4 t5 t6 fs tb : _) (zz1 : val = .ref x) (zz2 : TabB tb) (zz3 : AskC prog w f fs j tj rt nt) (zz4 : nw = (x, instObj 52 d) :: (d, ruleD w.params U RL f v t1 t2 t3 t4 t5 t6) :: (fs ++ (tb ++ rest))) (zz5 : (∀ p ∈ rest, p.1 ≠ x)) (zz6 : (∀ p ∈ rest, p.1 ≠ d)) (zz7 : (∀ q ∈ fs, q ∈ tb ∨ ∀ p ∈ rest, p.1 ≠ q.1)) (zz8 : (∀ q ∈ fs, q.1 ≠ 156)) (zz9 : ∀ q ∈ tb, q ∈ tb₀ ∨ q.1 = 156 ∨ ∀ p ∈ rest, p.1 ≠ q.1) : RuleOut prog w tb₀ rest j tj v rt nt val nw
theorem rule_fin {prog : Program} {w : World} {tb₀ rest all : List (Addr × Obj)} {j : Int} {tj : Tok} {v : Value} {rt nt : Addr} {h₀ h : Heap} {L x d U RL f : Addr} {t1 t2 t3 t4 t5 t6 : Tok} {fs tb : List (Addr × Obj)} {G : Prop} (N : News h₀ L h all) (ask : AskC prog w f fs j tj rt nt)
    (hx : (x, instObj 52 d) ∈ all) (hdm : (d, ruleD w.params U RL f v t1 t2 t3 t4 t5 t6) ∈ all) (ht : TabB tb) (hfs : ∀ p ∈ fs, p ∈ all) (htb : ∀ p ∈ tb, p ∈ all) (hrs : ∀ p ∈ rest, p ∈ all) (h1 : ∀ p ∈ rest, p.1 ≠ x) (h2 : ∀ p ∈ rest, p.1 ≠ d) (h3 : ∀ q ∈ fs, q ∈ tb ∨ ∀ p ∈ rest, p.1 ≠ q.1) (h5 : ∀ q ∈ fs, q.1 ≠ 156) (h4 : ∀ q ∈ tb, q ∈ tb₀ ∨ q.1 = 156 ∨ ∀ p ∈ rest, p.1 ≠ q.1)
    (k : ∀ nw, RuleOut prog w tb₀ rest j tj v rt nt (.ref x) nw → News h₀ L h nw → G) : G :=
  k _ ⟨x, d, U, RL, f, t1, t2, t3, t4, t5, t6, fs, tb, rfl, ht, ask, rfl, h1, h2, h3, h5, h4⟩ (KStt.news_of N fun p hp => by
    rcases List.mem_cons.mp hp with rfl | hp
    · exact hx
    rcases List.mem_cons.mp hp with rfl | hp
    · exact hdm
    rcases List.mem_append.mp hp with hp | hp
    · exact hfs p hp
    rcases List.mem_append.mp hp with hp | hp
    · exact htb p hp
    · exact hrs p hp)
namespace Rn
noncomputable def S0 (prog : Program) (w : World) (rest : List (Addr × Obj)) (j : Int) (tj : Tok) (v : Value) (rt nt : Addr) (p : Program) (loose : List Str) (mean : ExcName → Option Value) (mg : Str → Option Value) (mb : Str → Option Value) (dp : Nat) (un : Nat) (gd : Option (List Code)) (cn : Str) (cnm : List (Str × NameKind)) (cig : Bool) (cic : Bool) (cmo : List (Str × Const)) (a : Addr) (ccd : Value) (cl : List (Str × Addr)) (outer : List Env) (hd' : Option Value) (A₀ : Around) (base : Heap) (h₀ : Heap) (L : Addr) (m : Str → Option Value) (s : Shared) (Q : Value → Shared → Prop) (E : Value → Shared → Prop) : Prop :=
  (∀ p ∈ rest, p.1 ≠ 156) → 
  ComesLv prog w 10 200 161 ((156, tabObj #[]) :: rest) [.int j tj, v, .ref rt, .ref nt] [] (RuleOut prog w [(156, tabObj #[])] rest j tj v rt nt) p loose mean mg mb dp un gd cn ⟨.function, cnm, cig, cic, cmo⟩ a ccd cl outer hd' A₀ base h₀ L m s Q E
noncomputable def P0 (x : Program × World × (List (Addr × Obj)) × Int × Tok × Value × Addr × Addr × Program × List Str × (ExcName → Option Value) × (Str → Option Value) × (Str → Option Value) × Nat × Nat × Option (List Code) × Str × (List (Str × NameKind)) × Bool × Bool × (List (Str × Const)) × Addr × Value × (List (Str × Addr)) × List Env × Option Value × Around × Heap × Heap × Addr × (Str → Option Value) × Shared × (Value → Shared → Prop) × (Value → Shared → Prop)) : Prop := S0 x.1 x.2.1 x.2.2.1 x.2.2.2.1 x.2.2.2.2.1 x.2.2.2.2.2.1 x.2.2.2.2.2.2.1 x.2.2.2.2.2.2.2.1 x.2.2.2.2.2.2.2.2.1 x.2.2.2.2.2.2.2.2.2.1 x.2.2.2.2.2.2.2.2.2.2.1 x.2.2.2.2.2.2.2.2.2.2.2.1 x.2.2.2.2.2.2.2.2.2.2.2.2.1 x.2.2.2.2.2.2.2.2.2.2.2.2.2.1 x.2.2.2.2.2.2.2.2.2.2.2.2.2.2.1 x.2.2.2.2.2.2.2.2.2.2.2.2.2.2.2.1 x.2.2.2.2.2.2.2.2.2.2.2.2.2.2.2.2.1 x.2.2.2.2.2.2.2.2.2.2.2.2.2.2.2.2.2.1 x.2.2.2.2.2.2.2.2.2.2.2.2.2.2.2.2.2.2.1 x.2.2.2.2.2.2.2.2.2.2.2.2.2.2.2.2.2.2.2.1 x.2.2.2.2.2.2.2.2.2.2.2.2.2.2.2.2.2.2.2.2.1 x.2.2.2.2.2.2.2.2.2.2.2.2.2.2.2.2.2.2.2.2.2.1 x.2.2.2.2.2.2.2.2.2.2.2.2.2.2.2.2.2.2.2.2.2.2.1 x.2.2.2.2.2.2.2.2.2.2.2.2.2.2.2.2.2.2.2.2.2.2.2.1 x.2.2.2.2.2.2.2.2.2.2.2.2.2.2.2.2.2.2.2.2.2.2.2.2.1 x.2.2.2.2.2.2.2.2.2.2.2.2.2.2.2.2.2.2.2.2.2.2.2.2.2.1 x.2.2.2.2.2.2.2.2.2.2.2.2.2.2.2.2.2.2.2.2.2.2.2.2.2.2.1 x.2.2.2.2.2.2.2.2.2.2.2.2.2.2.2.2.2.2.2.2.2.2.2.2.2.2.2.1 x.2.2.2.2.2.2.2.2.2.2.2.2.2.2.2.2.2.2.2.2.2.2.2.2.2.2.2.2.1 x.2.2.2.2.2.2.2.2.2.2.2.2.2.2.2.2.2.2.2.2.2.2.2.2.2.2.2.2.2.1 x.2.2.2.2.2.2.2.2.2.2.2.2.2.2.2.2.2.2.2.2.2.2.2.2.2.2.2.2.2.2.1 x.2.2.2.2.2.2.2.2.2.2.2.2.2.2.2.2.2.2.2.2.2.2.2.2.2.2.2.2.2.2.2.1 x.2.2.2.2.2.2.2.2.2.2.2.2.2.2.2.2.2.2.2.2.2.2.2.2.2.2.2.2.2.2.2.2.1 x.2.2.2.2.2.2.2.2.2.2.2.2.2.2.2.2.2.2.2.2.2.2.2.2.2.2.2.2.2.2.2.2.2
noncomputable def k0 : Program × World × (List (Addr × Obj)) × Int × Tok × Value × Addr × Addr × Program × List Str × (ExcName → Option Value) × (Str → Option Value) × (Str → Option Value) × Nat × Nat × Option (List Code) × Str × (List (Str × NameKind)) × Bool × Bool × (List (Str × Const)) × Addr × Value × (List (Str × Addr)) × List Env × Option Value × Around × Heap × Heap × Addr × (Str → Option Value) × Shared × (Value → Shared → Prop) × (Value → Shared → Prop) := henk (qv, aWorld 1, [], 0, default, .none, 0, 0, qv, [], fun _ => none, fun _ => none, fun _ => none, 0, 0, none, default, [], false, false, [], 0, .none, [], [], none, hen_a, default, default, 0, fun _ => none, hen_s, fun _ _ => True, fun _ _ => True) P0
@[irreducible] noncomputable def prog : Program := k0.1
@[irreducible] noncomputable def w : World := k0.2.1
@[irreducible] noncomputable def rest : List (Addr × Obj) := k0.2.2.1
@[irreducible] noncomputable def j : Int := k0.2.2.2.1
@[irreducible] noncomputable def tj : Tok := k0.2.2.2.2.1
@[irreducible] noncomputable def v : Value := k0.2.2.2.2.2.1
@[irreducible] noncomputable def rt : Addr := k0.2.2.2.2.2.2.1
@[irreducible] noncomputable def nt : Addr := k0.2.2.2.2.2.2.2.1
@[irreducible] noncomputable def p : Program := k0.2.2.2.2.2.2.2.2.1
@[irreducible] noncomputable def loose : List Str := k0.2.2.2.2.2.2.2.2.2.1
@[irreducible] noncomputable def mean : ExcName → Option Value := k0.2.2.2.2.2.2.2.2.2.2.1
@[irreducible] noncomputable def mg : Str → Option Value := k0.2.2.2.2.2.2.2.2.2.2.2.1
@[irreducible] noncomputable def mb : Str → Option Value := k0.2.2.2.2.2.2.2.2.2.2.2.2.1
@[irreducible] noncomputable def dp : Nat := k0.2.2.2.2.2.2.2.2.2.2.2.2.2.1
@[irreducible] noncomputable def un : Nat := k0.2.2.2.2.2.2.2.2.2.2.2.2.2.2.1
@[irreducible] noncomputable def gd : Option (List Code) := k0.2.2.2.2.2.2.2.2.2.2.2.2.2.2.2.1
@[irreducible] noncomputable def cn : Str := k0.2.2.2.2.2.2.2.2.2.2.2.2.2.2.2.2.1
@[irreducible] noncomputable def cnm : List (Str × NameKind) := k0.2.2.2.2.2.2.2.2.2.2.2.2.2.2.2.2.2.1
@[irreducible] noncomputable def cig : Bool := k0.2.2.2.2.2.2.2.2.2.2.2.2.2.2.2.2.2.2.1
@[irreducible] noncomputable def cic : Bool := k0.2.2.2.2.2.2.2.2.2.2.2.2.2.2.2.2.2.2.2.1
@[irreducible] noncomputable def cmo : List (Str × Const) := k0.2.2.2.2.2.2.2.2.2.2.2.2.2.2.2.2.2.2.2.2.1
@[irreducible] noncomputable def a : Addr := k0.2.2.2.2.2.2.2.2.2.2.2.2.2.2.2.2.2.2.2.2.2.1
@[irreducible] noncomputable def ccd : Value := k0.2.2.2.2.2.2.2.2.2.2.2.2.2.2.2.2.2.2.2.2.2.2.1
@[irreducible] noncomputable def cl : List (Str × Addr) := k0.2.2.2.2.2.2.2.2.2.2.2.2.2.2.2.2.2.2.2.2.2.2.2.1
@[irreducible] noncomputable def outer : List Env := k0.2.2.2.2.2.2.2.2.2.2.2.2.2.2.2.2.2.2.2.2.2.2.2.2.1
@[irreducible] noncomputable def hd' : Option Value := k0.2.2.2.2.2.2.2.2.2.2.2.2.2.2.2.2.2.2.2.2.2.2.2.2.2.1
@[irreducible] noncomputable def A₀ : Around := k0.2.2.2.2.2.2.2.2.2.2.2.2.2.2.2.2.2.2.2.2.2.2.2.2.2.2.1
@[irreducible] noncomputable def base : Heap := k0.2.2.2.2.2.2.2.2.2.2.2.2.2.2.2.2.2.2.2.2.2.2.2.2.2.2.2.1
@[irreducible] noncomputable def h₀ : Heap := k0.2.2.2.2.2.2.2.2.2.2.2.2.2.2.2.2.2.2.2.2.2.2.2.2.2.2.2.2.1
@[irreducible] noncomputable def L : Addr := k0.2.2.2.2.2.2.2.2.2.2.2.2.2.2.2.2.2.2.2.2.2.2.2.2.2.2.2.2.2.1
@[irreducible] noncomputable def m : Str → Option Value := k0.2.2.2.2.2.2.2.2.2.2.2.2.2.2.2.2.2.2.2.2.2.2.2.2.2.2.2.2.2.2.1
@[irreducible] noncomputable def s : Shared := k0.2.2.2.2.2.2.2.2.2.2.2.2.2.2.2.2.2.2.2.2.2.2.2.2.2.2.2.2.2.2.2.1
@[irreducible] noncomputable def Q : Value → Shared → Prop := k0.2.2.2.2.2.2.2.2.2.2.2.2.2.2.2.2.2.2.2.2.2.2.2.2.2.2.2.2.2.2.2.2.1
@[irreducible] noncomputable def E : Value → Shared → Prop := k0.2.2.2.2.2.2.2.2.2.2.2.2.2.2.2.2.2.2.2.2.2.2.2.2.2.2.2.2.2.2.2.2.2
theorem main : S0 prog w rest j tj v rt nt p loose mean mg mb dp un gd cn cnm cig cic cmo a ccd cl outer hd' A₀ base h₀ L m s Q E := by
  unfold S0 ComesLv
  intro hr B F X N T C1 C2 hk hd hu hret
  refine wpAny_call ?_
  k_enter
  k_steps
  (with_reducible rename News _ _ _ _ => N6; with_reducible rename Fr _ _ _ _ => F6)
  have ask : AskC prog w (nwHead N6) (fsOf N6) j tj rt nt := by
    unfold AskC
    dsimp only [nwHead, fsOf]
    clear N6 F6
    refine ⟨⟨_, _, .head _, rfl⟩, ?_⟩
    intro p loose mean mg mb dp un gd env outer A₀ base h₀ L m s Q E news ns c tob DT x t r B F X N hne hfs hrt hT hget hsz T hf hk hd hu hret
    have f0 := hfs _ (.head _)
    have f1 := hfs _ (.tail _ (.head _))
    have f2 := hfs _ (.tail _ (.tail _ (.head _)))
    have f3 := hfs _ (.tail _ (.tail _ (.tail _ (.head _))))
    have f4 := hfs _ (.tail _ (.tail _ (.tail _ (.tail _ (.head _)))))
    refine wpAny_call ?_
    refine' code_nest ?k1 ?k2 ?k3 ?k4 ?k5 ?kA ?kF ?kK ?k6 ?k7 ?k8 ?k9 ?kB ?_ ?c2 ?c3 ?c4 ?c5; (case kA => exact rfl); (case kF => assumption); (case kK => assumption); (case k1 => k_asm); (case k2 => k_asm); (case k3 => k_asm); (case k4 => k_asm); (case k5 => k_asm); (case k6 => k_mem); (case k7 => exact codeRec_news (by k_asm) (by k_mem) (by assumption) (by assumption)); (case k8 => k_room); (case k9 => exact BindsTo.of_eq rfl); (case c5 => decide); (case kB => exact locs rfl); (case c2 => exact rfl); (case c3 => exact rfl); (case c4 => exact rfl); k_whole; intro g' L' h' FG' F' N' B' X' T'; (try dsimp only); (try k_lift B'); (try k_fold)
    (k_with "getMethod ref" => (refine getMethod_strTab_get (hT _ (News.get (by k_asm) (by k_mem))) ?_))
    (k_with "call builtin:dict.get" => (k_here; k_dflt (refine call_get2_strTab (hT _ (News.get (by k_asm) (by k_mem))) (PyProof.V.Flat.int _ _) ?_); intro v9 hv9; (obtain ⟨u9, hv9⟩ := flat_int hget hv9); subst hv9))
    k_steps
    (with_reducible rename Fr _ _ _ _ => F7; with_reducible rename News _ _ _ _ => N7)
    have lT : AllLt _ news := And.right (by assumption : @LT.lt Nat instLTNat nt _ ∧ AllLt _ news)
    exact hret _ _ _ _ F7 (KStt.news_of N7 fun p hp => by simp only [List.mem_cons] at hp ⊢; grind) (Ne.symm (Nat.ne_of_lt (And.left (by assumption : @LT.lt Nat instLTNat nt _ ∧ AllLt _ news)))) (ne_of_lts (allLt_mem lT))
  have lL : AllLt _ rest := And.right (by assumption : @LT.lt Nat instLTNat 156 _ ∧ AllLt _ rest)
  have h3 : ∀ q ∈ fsOf N6, q ∈ tbOf N6 ∨ ∀ p ∈ rest, p.1 ≠ q.1 := fun q hq => by
    simp only [fsOf, fsOf2, tbOf, tbOf2, List.mem_cons, List.not_mem_nil, or_false] at hq
    rcases hq with rfl | rfl | rfl | rfl | rfl
    · exact .inr (all_gtT lL (by dsimp only; omega))
    · exact .inl (.head _)
    · exact .inr (all_gtT lL (by dsimp only; omega))
    · exact .inr (all_gtT lL (by dsimp only; omega))
    · exact .inr (all_gtT lL (by dsimp only; omega))
  have l156 := And.left (by assumption : @LT.lt Nat instLTNat 156 _ ∧ AllLt _ rest)
  have h5 : ∀ q ∈ fsOf N6, q.1 ≠ 156 := fun q hq => by
    simp only [fsOf, List.mem_cons, List.not_mem_nil, or_false] at hq
    rcases hq with rfl | rfl | rfl | rfl | rfl <;> (refine neN ?_; (try dsimp only); omega)
  exact rule_fin (fs := fsOf N6) (tb := tbOf N6) N6 ask (by k_mem) (by k_mem) (.inr ⟨_, _, _, _, rfl, by assumption, by assumption⟩) (fun p hp => (by simp only [fsOf, fsOf2, tbOf, tbOf2, List.mem_cons, List.not_mem_nil, or_false] at hp ⊢; grind)) (fun p hp => (by simp only [fsOf, fsOf2, tbOf, tbOf2, List.mem_cons, List.not_mem_nil, or_false] at hp ⊢; grind)) (fun p hp => (by simp only [fsOf, fsOf2, tbOf, tbOf2, List.mem_cons, List.not_mem_nil, or_false] at hp ⊢; grind)) (all_gtT lL (by omega)) (all_gtT lL (by omega)) h3 h5 (fun q hq => by
    simp only [tbOf, List.mem_cons, List.not_mem_nil, or_false] at hq
    rcases hq with rfl | rfl
    · exact .inr (.inr (all_gtT lL (by dsimp only; omega)))
    · exact .inr (.inl rfl)) (fun nw P9 N9 => hret _ _ _ _ P9 F6 N9)
end Rn
theorem rule_new (prog : Program) (w : World) (rest : List (Addr × Obj)) (j : Int) (tj : Tok) (v : Value) (rt nt : Addr) (hr : ∀ p ∈ rest, p.1 ≠ 156) :
    ComesL prog w 10 200 161 ((156, tabObj #[]) :: rest) [.int j tj, v, .ref rt, .ref nt] [] (RuleOut prog w [(156, tabObj #[])] rest j tj v rt nt) := by
  intro p loose mean mg mb dp un gd cn cs a ccd cl outer hd' A₀ base h₀ L m s Q E B F X N T C1 C2 hk
  obtain ⟨ck, cnm, cig, cic, cmo⟩ := cs
  cases hk
  exact henk_all (P := Rn.P0) (by with_unfolding_all exact Rn.main) (prog, w, rest, j, tj, v, rt, nt, p, loose, mean, mg, mb, dp, un, gd, cn, cnm, cig, cic, cmo, a, ccd, cl, outer, hd', A₀, base, h₀, L, m, s, Q, E) hr B F X N T C1 C2 rfl
theorem c_ne_156 {h₀ h : Heap} {L c : Addr} {oc : Obj} {vs : Array Value} {tq : Tok} {rest : List (Addr × Obj)} (hoc : oc.data = .fields vs) (hov : vs[1]? = some (.str (Str.ofString "_law_rule.<locals>._law_asked") tq))
    (N : News h₀ L h ((c, oc) :: (156, tabObj (#[] ++ #[rawInt ((183 : Nat) : Int), rawInt ((4 : Nat) : Int), .ref c])) :: rest)) : c ≠ 156 := fun e => by
  subst e
  have q1 := (N _ (.head _)).1
  have q2 := (N _ (.tail _ (.head _))).1
  dsimp only at q1 q2
  rw [q1] at q2
  have q3 := congrArg Obj.data (Option.some.inj q2)
  rw [hoc] at q3
  cases q3
  simp [rawInt] at hov
namespace Ro
noncomputable def S0 (prog : Program) (w : World) (rest : List (Addr × Obj)) (c : Addr) (oc : Obj) (vs : Array Value) (tq : Tok) (j : Int) (tj : Tok) (v : Value) (rt nt : Addr) (p : Program) (loose : List Str) (mean : ExcName → Option Value) (mg : Str → Option Value) (mb : Str → Option Value) (dp : Nat) (un : Nat) (gd : Option (List Code)) (cn : Str) (cnm : List (Str × NameKind)) (cig : Bool) (cic : Bool) (cmo : List (Str × Const)) (a : Addr) (ccd : Value) (cl : List (Str × Addr)) (outer : List Env) (hd' : Option Value) (A₀ : Around) (base : Heap) (h₀ : Heap) (L : Addr) (m : Str → Option Value) (s : Shared) (Q : Value → Shared → Prop) (E : Value → Shared → Prop) : Prop :=
  oc.data = .fields vs → vs[1]? = some (.str (Str.ofString "_law_rule.<locals>._law_asked") tq) → (∀ p ∈ rest, p.1 ≠ 156) → 
  ComesLv prog w 10 200 161 ((c, oc) :: (156, tabObj (#[] ++ #[rawInt ((183 : Nat) : Int), rawInt ((4 : Nat) : Int), .ref c])) :: rest) [.int j tj, v, .ref rt, .ref nt] [] (RuleOut prog w [(c, oc), (156, tabObj (#[] ++ #[rawInt ((183 : Nat) : Int), rawInt ((4 : Nat) : Int), .ref c]))] rest j tj v rt nt) p loose mean mg mb dp un gd cn ⟨.function, cnm, cig, cic, cmo⟩ a ccd cl outer hd' A₀ base h₀ L m s Q E
noncomputable def P0 (x : Program × World × (List (Addr × Obj)) × Addr × Obj × Array Value × Tok × Int × Tok × Value × Addr × Addr × Program × List Str × (ExcName → Option Value) × (Str → Option Value) × (Str → Option Value) × Nat × Nat × Option (List Code) × Str × (List (Str × NameKind)) × Bool × Bool × (List (Str × Const)) × Addr × Value × (List (Str × Addr)) × List Env × Option Value × Around × Heap × Heap × Addr × (Str → Option Value) × Shared × (Value → Shared → Prop) × (Value → Shared → Prop)) : Prop := S0 x.1 x.2.1 x.2.2.1 x.2.2.2.1 x.2.2.2.2.1 x.2.2.2.2.2.1 x.2.2.2.2.2.2.1 x.2.2.2.2.2.2.2.1 x.2.2.2.2.2.2.2.2.1 x.2.2.2.2.2.2.2.2.2.1 x.2.2.2.2.2.2.2.2.2.2.1 x.2.2.2.2.2.2.2.2.2.2.2.1 x.2.2.2.2.2.2.2.2.2.2.2.2.1 x.2.2.2.2.2.2.2.2.2.2.2.2.2.1 x.2.2.2.2.2.2.2.2.2.2.2.2.2.2.1 x.2.2.2.2.2.2.2.2.2.2.2.2.2.2.2.1 x.2.2.2.2.2.2.2.2.2.2.2.2.2.2.2.2.1 x.2.2.2.2.2.2.2.2.2.2.2.2.2.2.2.2.2.1 x.2.2.2.2.2.2.2.2.2.2.2.2.2.2.2.2.2.2.1 x.2.2.2.2.2.2.2.2.2.2.2.2.2.2.2.2.2.2.2.1 x.2.2.2.2.2.2.2.2.2.2.2.2.2.2.2.2.2.2.2.2.1 x.2.2.2.2.2.2.2.2.2.2.2.2.2.2.2.2.2.2.2.2.2.1 x.2.2.2.2.2.2.2.2.2.2.2.2.2.2.2.2.2.2.2.2.2.2.1 x.2.2.2.2.2.2.2.2.2.2.2.2.2.2.2.2.2.2.2.2.2.2.2.1 x.2.2.2.2.2.2.2.2.2.2.2.2.2.2.2.2.2.2.2.2.2.2.2.2.1 x.2.2.2.2.2.2.2.2.2.2.2.2.2.2.2.2.2.2.2.2.2.2.2.2.2.1 x.2.2.2.2.2.2.2.2.2.2.2.2.2.2.2.2.2.2.2.2.2.2.2.2.2.2.1 x.2.2.2.2.2.2.2.2.2.2.2.2.2.2.2.2.2.2.2.2.2.2.2.2.2.2.2.1 x.2.2.2.2.2.2.2.2.2.2.2.2.2.2.2.2.2.2.2.2.2.2.2.2.2.2.2.2.1 x.2.2.2.2.2.2.2.2.2.2.2.2.2.2.2.2.2.2.2.2.2.2.2.2.2.2.2.2.2.1 x.2.2.2.2.2.2.2.2.2.2.2.2.2.2.2.2.2.2.2.2.2.2.2.2.2.2.2.2.2.2.1 x.2.2.2.2.2.2.2.2.2.2.2.2.2.2.2.2.2.2.2.2.2.2.2.2.2.2.2.2.2.2.2.1 x.2.2.2.2.2.2.2.2.2.2.2.2.2.2.2.2.2.2.2.2.2.2.2.2.2.2.2.2.2.2.2.2.1 x.2.2.2.2.2.2.2.2.2.2.2.2.2.2.2.2.2.2.2.2.2.2.2.2.2.2.2.2.2.2.2.2.2.1 x.2.2.2.2.2.2.2.2.2.2.2.2.2.2.2.2.2.2.2.2.2.2.2.2.2.2.2.2.2.2.2.2.2.2.1 x.2.2.2.2.2.2.2.2.2.2.2.2.2.2.2.2.2.2.2.2.2.2.2.2.2.2.2.2.2.2.2.2.2.2.2.1 x.2.2.2.2.2.2.2.2.2.2.2.2.2.2.2.2.2.2.2.2.2.2.2.2.2.2.2.2.2.2.2.2.2.2.2.2.1 x.2.2.2.2.2.2.2.2.2.2.2.2.2.2.2.2.2.2.2.2.2.2.2.2.2.2.2.2.2.2.2.2.2.2.2.2.2
noncomputable def k0 : Program × World × (List (Addr × Obj)) × Addr × Obj × Array Value × Tok × Int × Tok × Value × Addr × Addr × Program × List Str × (ExcName → Option Value) × (Str → Option Value) × (Str → Option Value) × Nat × Nat × Option (List Code) × Str × (List (Str × NameKind)) × Bool × Bool × (List (Str × Const)) × Addr × Value × (List (Str × Addr)) × List Env × Option Value × Around × Heap × Heap × Addr × (Str → Option Value) × Shared × (Value → Shared → Prop) × (Value → Shared → Prop) := henk (qv, aWorld 1, [], 0, { cls := .none }, #[], default, 0, default, .none, 0, 0, qv, [], fun _ => none, fun _ => none, fun _ => none, 0, 0, none, default, [], false, false, [], 0, .none, [], [], none, hen_a, default, default, 0, fun _ => none, hen_s, fun _ _ => True, fun _ _ => True) P0
@[irreducible] noncomputable def prog : Program := k0.1
@[irreducible] noncomputable def w : World := k0.2.1
@[irreducible] noncomputable def rest : List (Addr × Obj) := k0.2.2.1
@[irreducible] noncomputable def c : Addr := k0.2.2.2.1
@[irreducible] noncomputable def oc : Obj := k0.2.2.2.2.1
@[irreducible] noncomputable def vs : Array Value := k0.2.2.2.2.2.1
@[irreducible] noncomputable def tq : Tok := k0.2.2.2.2.2.2.1
@[irreducible] noncomputable def j : Int := k0.2.2.2.2.2.2.2.1
@[irreducible] noncomputable def tj : Tok := k0.2.2.2.2.2.2.2.2.1
@[irreducible] noncomputable def v : Value := k0.2.2.2.2.2.2.2.2.2.1
@[irreducible] noncomputable def rt : Addr := k0.2.2.2.2.2.2.2.2.2.2.1
@[irreducible] noncomputable def nt : Addr := k0.2.2.2.2.2.2.2.2.2.2.2.1
@[irreducible] noncomputable def p : Program := k0.2.2.2.2.2.2.2.2.2.2.2.2.1
@[irreducible] noncomputable def loose : List Str := k0.2.2.2.2.2.2.2.2.2.2.2.2.2.1
@[irreducible] noncomputable def mean : ExcName → Option Value := k0.2.2.2.2.2.2.2.2.2.2.2.2.2.2.1
@[irreducible] noncomputable def mg : Str → Option Value := k0.2.2.2.2.2.2.2.2.2.2.2.2.2.2.2.1
@[irreducible] noncomputable def mb : Str → Option Value := k0.2.2.2.2.2.2.2.2.2.2.2.2.2.2.2.2.1
@[irreducible] noncomputable def dp : Nat := k0.2.2.2.2.2.2.2.2.2.2.2.2.2.2.2.2.2.1
@[irreducible] noncomputable def un : Nat := k0.2.2.2.2.2.2.2.2.2.2.2.2.2.2.2.2.2.2.1
@[irreducible] noncomputable def gd : Option (List Code) := k0.2.2.2.2.2.2.2.2.2.2.2.2.2.2.2.2.2.2.2.1
@[irreducible] noncomputable def cn : Str := k0.2.2.2.2.2.2.2.2.2.2.2.2.2.2.2.2.2.2.2.2.1
@[irreducible] noncomputable def cnm : List (Str × NameKind) := k0.2.2.2.2.2.2.2.2.2.2.2.2.2.2.2.2.2.2.2.2.2.1
@[irreducible] noncomputable def cig : Bool := k0.2.2.2.2.2.2.2.2.2.2.2.2.2.2.2.2.2.2.2.2.2.2.1
@[irreducible] noncomputable def cic : Bool := k0.2.2.2.2.2.2.2.2.2.2.2.2.2.2.2.2.2.2.2.2.2.2.2.1
@[irreducible] noncomputable def cmo : List (Str × Const) := k0.2.2.2.2.2.2.2.2.2.2.2.2.2.2.2.2.2.2.2.2.2.2.2.2.1
@[irreducible] noncomputable def a : Addr := k0.2.2.2.2.2.2.2.2.2.2.2.2.2.2.2.2.2.2.2.2.2.2.2.2.2.1
@[irreducible] noncomputable def ccd : Value := k0.2.2.2.2.2.2.2.2.2.2.2.2.2.2.2.2.2.2.2.2.2.2.2.2.2.2.1
@[irreducible] noncomputable def cl : List (Str × Addr) := k0.2.2.2.2.2.2.2.2.2.2.2.2.2.2.2.2.2.2.2.2.2.2.2.2.2.2.2.1
@[irreducible] noncomputable def outer : List Env := k0.2.2.2.2.2.2.2.2.2.2.2.2.2.2.2.2.2.2.2.2.2.2.2.2.2.2.2.2.1
@[irreducible] noncomputable def hd' : Option Value := k0.2.2.2.2.2.2.2.2.2.2.2.2.2.2.2.2.2.2.2.2.2.2.2.2.2.2.2.2.2.1
@[irreducible] noncomputable def A₀ : Around := k0.2.2.2.2.2.2.2.2.2.2.2.2.2.2.2.2.2.2.2.2.2.2.2.2.2.2.2.2.2.2.1
@[irreducible] noncomputable def base : Heap := k0.2.2.2.2.2.2.2.2.2.2.2.2.2.2.2.2.2.2.2.2.2.2.2.2.2.2.2.2.2.2.2.1
@[irreducible] noncomputable def h₀ : Heap := k0.2.2.2.2.2.2.2.2.2.2.2.2.2.2.2.2.2.2.2.2.2.2.2.2.2.2.2.2.2.2.2.2.1
@[irreducible] noncomputable def L : Addr := k0.2.2.2.2.2.2.2.2.2.2.2.2.2.2.2.2.2.2.2.2.2.2.2.2.2.2.2.2.2.2.2.2.2.1
@[irreducible] noncomputable def m : Str → Option Value := k0.2.2.2.2.2.2.2.2.2.2.2.2.2.2.2.2.2.2.2.2.2.2.2.2.2.2.2.2.2.2.2.2.2.2.1
@[irreducible] noncomputable def s : Shared := k0.2.2.2.2.2.2.2.2.2.2.2.2.2.2.2.2.2.2.2.2.2.2.2.2.2.2.2.2.2.2.2.2.2.2.2.1
@[irreducible] noncomputable def Q : Value → Shared → Prop := k0.2.2.2.2.2.2.2.2.2.2.2.2.2.2.2.2.2.2.2.2.2.2.2.2.2.2.2.2.2.2.2.2.2.2.2.2.1
@[irreducible] noncomputable def E : Value → Shared → Prop := k0.2.2.2.2.2.2.2.2.2.2.2.2.2.2.2.2.2.2.2.2.2.2.2.2.2.2.2.2.2.2.2.2.2.2.2.2.2
theorem main : S0 prog w rest c oc vs tq j tj v rt nt p loose mean mg mb dp un gd cn cnm cig cic cmo a ccd cl outer hd' A₀ base h₀ L m s Q E := by
  unfold S0 ComesLv
  intro hoc hov hr B F X N T C1 C2 hk hd hu hret
  have hc6 : c ≠ 156 := c_ne_156 hoc hov N
  refine wpAny_call ?_
  k_enter
  k_steps
  (with_reducible rename News _ _ _ _ => N6; with_reducible rename Fr _ _ _ _ => F6)
  have ask : AskC prog w (nwHead N6) (fsOf2 N6) j tj rt nt := by
    unfold AskC
    dsimp only [nwHead, fsOf2]
    clear N6 F6
    refine ⟨⟨_, _, .head _, rfl⟩, ?_⟩
    intro p loose mean mg mb dp un gd env outer A₀ base h₀ L m s Q E news ns c tob DT x t r B F X N hne hfs hrt hT hget hsz T hf hk hd hu hret
    have f0 := hfs _ (.head _)
    have f1 := hfs _ (.tail _ (.head _))
    have f2 := hfs _ (.tail _ (.tail _ (.head _)))
    have f3 := hfs _ (.tail _ (.tail _ (.tail _ (.head _))))
    have f4 := hfs _ (.tail _ (.tail _ (.tail _ (.tail _ (.head _)))))
    refine wpAny_call ?_
    refine' code_nest ?k1 ?k2 ?k3 ?k4 ?k5 ?kA ?kF ?kK ?k6 ?k7 ?k8 ?k9 ?kB ?_ ?c2 ?c3 ?c4 ?c5; (case kA => exact rfl); (case kF => assumption); (case kK => assumption); (case k1 => k_asm); (case k2 => k_asm); (case k3 => k_asm); (case k4 => k_asm); (case k5 => k_asm); (case k6 => k_mem); (case k7 => exact codeRec_news (by k_asm) (by k_mem) (by assumption) (by assumption)); (case k8 => k_room); (case k9 => exact BindsTo.of_eq rfl); (case c5 => decide); (case kB => exact locs rfl); (case c2 => exact rfl); (case c3 => exact rfl); (case c4 => exact rfl); k_whole; intro g' L' h' FG' F' N' B' X' T'; (try dsimp only); (try k_lift B'); (try k_fold)
    (k_with "getMethod ref" => (refine getMethod_strTab_get (hT _ (News.get (by k_asm) (by k_mem))) ?_))
    (k_with "call builtin:dict.get" => (k_here; k_dflt (refine call_get2_strTab (hT _ (News.get (by k_asm) (by k_mem))) (PyProof.V.Flat.int _ _) ?_); intro v9 hv9; (obtain ⟨u9, hv9⟩ := flat_int hget hv9); subst hv9))
    k_steps
    (with_reducible rename Fr _ _ _ _ => F7; with_reducible rename News _ _ _ _ => N7)
    have lT : AllLt _ news := And.right (by assumption : @LT.lt Nat instLTNat nt _ ∧ AllLt _ news)
    exact hret _ _ _ _ F7 (KStt.news_of N7 fun p hp => by simp only [List.mem_cons] at hp ⊢; grind) (Ne.symm (Nat.ne_of_lt (And.left (by assumption : @LT.lt Nat instLTNat nt _ ∧ AllLt _ news)))) (ne_of_lts (allLt_mem lT))
  have lL : AllLt _ rest := And.right (And.right (by assumption : @LT.lt Nat instLTNat c _ ∧ @LT.lt Nat instLTNat 156 _ ∧ AllLt _ rest))
  have h3 : ∀ q ∈ fsOf2 N6, q ∈ tbOf2 N6 ∨ ∀ p ∈ rest, p.1 ≠ q.1 := fun q hq => by
    simp only [fsOf, fsOf2, tbOf, tbOf2, List.mem_cons, List.not_mem_nil, or_false] at hq
    rcases hq with rfl | rfl | rfl | rfl | rfl
    · exact .inr (all_gtT lL (by dsimp only; omega))
    · exact .inl (.head _)
    · exact .inr (all_gtT lL (by dsimp only; omega))
    · exact .inr (all_gtT lL (by dsimp only; omega))
    · exact .inr (all_gtT lL (by dsimp only; omega))
  have l156 := And.left (And.right (by assumption : @LT.lt Nat instLTNat c _ ∧ @LT.lt Nat instLTNat 156 _ ∧ AllLt _ rest))
  have h5 : ∀ q ∈ fsOf2 N6, q.1 ≠ 156 := fun q hq => by
    simp only [fsOf2, List.mem_cons, List.not_mem_nil, or_false] at hq
    rcases hq with rfl | rfl | rfl | rfl | rfl
    · refine neN ?_; (try dsimp only); omega
    · exact hc6
    · refine neN ?_; (try dsimp only); omega
    · refine neN ?_; (try dsimp only); omega
    · refine neN ?_; (try dsimp only); omega
  exact rule_fin (fs := fsOf2 N6) (tb := tbOf2 N6) N6 ask (by k_mem) (by k_mem) (.inr ⟨_, _, _, _, rfl, hoc, hov⟩) (fun p hp => (by simp only [fsOf, fsOf2, tbOf, tbOf2, List.mem_cons, List.not_mem_nil, or_false] at hp ⊢; grind)) (fun p hp => (by simp only [fsOf, fsOf2, tbOf, tbOf2, List.mem_cons, List.not_mem_nil, or_false] at hp ⊢; grind)) (fun p hp => (by simp only [fsOf, fsOf2, tbOf, tbOf2, List.mem_cons, List.not_mem_nil, or_false] at hp ⊢; grind)) (all_gtT lL (by omega)) (all_gtT lL (by omega)) h3 h5 (fun q hq => .inl hq) (fun nw P9 N9 => hret _ _ _ _ P9 F6 N9)
end Ro
theorem rule_old (prog : Program) (w : World) (rest : List (Addr × Obj)) (c : Addr) (oc : Obj) (vs : Array Value) (tq : Tok) (hoc : oc.data = .fields vs) (hov : vs[1]? = some (.str (Str.ofString "_law_rule.<locals>._law_asked") tq)) (j : Int) (tj : Tok) (v : Value) (rt nt : Addr) (hr : ∀ p ∈ rest, p.1 ≠ 156) :
    ComesL prog w 10 200 161 ((c, oc) :: (156, tabObj (#[] ++ #[rawInt ((183 : Nat) : Int), rawInt ((4 : Nat) : Int), .ref c])) :: rest) [.int j tj, v, .ref rt, .ref nt] [] (RuleOut prog w [(c, oc), (156, tabObj (#[] ++ #[rawInt ((183 : Nat) : Int), rawInt ((4 : Nat) : Int), .ref c]))] rest j tj v rt nt) := by
  intro p loose mean mg mb dp un gd cn cs a ccd cl outer hd' A₀ base h₀ L m s Q E B F X N T C1 C2 hk
  obtain ⟨ck, cnm, cig, cic, cmo⟩ := cs
  cases hk
  exact henk_all (P := Ro.P0) (by with_unfolding_all exact Ro.main) (prog, w, rest, c, oc, vs, tq, j, tj, v, rt, nt, p, loose, mean, mg, mb, dp, un, gd, cn, cnm, cig, cic, cmo, a, ccd, cl, outer, hd', A₀, base, h₀, L, m, s, Q, E) hoc hov hr B F X N T C1 C2 rfl
theorem rule_call (prog : Program) (w : World) (tb rest : List (Addr × Obj)) (j : Int) (tj : Tok) (v : Value) (rt nt : Addr) (ht : TabB tb) (hr : ∀ p ∈ rest, p.1 ≠ 156) : ComesL prog w 10 200 161 (tb ++ rest) [.int j tj, v, .ref rt, .ref nt] [] (RuleOut prog w tb rest j tj v rt nt) := by
  rcases ht with rfl | ⟨c, oc, vs, tq, rfl, h1, h2⟩
  · exact rule_new prog w rest j tj v rt nt hr
  · exact rule_old prog w rest c oc vs tq h1 h2 j tj v rt nt hr
end Lw
end
example : True := by k_with_none; w_top off; trivial
section
open PySem PySem.W PyProof.Rows
namespace Lw
example : True := by
  k_with_none
  k_with "omega" => ((fail_if_success (fail_if_success (omega (config := {})))); first | lia | omega (config := {}))
  k_with "callWith ref" => ((k_here; k_dflt (refine' callWith_K ?kAw90 ?kBw90 ?_; (case kAw90 => k_asm); (case kBw90 => k_is); k_whole)))
  k_with "eval Name" => ((k_here; (fail_if_success (with_reducible show wpAny _ _ (eval (Expr.Name _ _) (compEnvC _ _ _ _)) _ _ _)); k_dflt (first | (refine' nameX_L ?Fw91 ?vw91 ?_ ?aw91 ?bw91; (case bw91 => rfl); (case Fw91 => k_asm); (case aw91 => rfl); (case vw91 => rfl); k_whole) | (refine' nameX_C ?Nw92 ?cw92 ?mw92 ?dw92 ?_ ?aw92 ?bw92; (case bw92 => rfl); (case aw92 => rfl); (case Nw92 => k_asm); (case cw92 => rfl); (case mw92 => k_mem); (case dw92 => k_asm); k_whole) | (refine' nameX_K ?Fw93 ?Xw93 ?Tw93 ?ew93 ?_ ?aw93 ?bw93; (case bw93 => rfl); (case Fw93 => k_asm); (case Xw93 => k_asm); (case Tw93 => k_asm); (case aw93 => rfl); (case ew93 => k_is); k_whole) | (refine' nameX_B ?Fw94 ?Xw94 ?Tw94 ?ew94 ?vw94 ?nw94 ?_ ?aw94 ?bw94; (case bw94 => rfl); (case Fw94 => k_asm); (case Xw94 => k_asm); (case Tw94 => k_asm); (case aw94 => rfl); (case ew94 => k_is); (case vw94 => boot_fast); (case nw94 => decide); k_whole))))
  k_with "execs cons" => ((k_here; refine execs_G ?_; intro G9w hG9w))
  k_with "Go" => (((try dsimp only); first | (refine go_next_S (by with_reducible assumption) ?_; intro tSw) | refine go_ret (by with_reducible assumption) ?_ | refine go_cont (by with_reducible assumption) ?_ | refine go_brk (by with_reducible assumption) ?_))
  k_with "k_ne" => ((with_reducible first | assumption | exact Ne.symm (by assumption) | exact Nat.ne_of_lt (by assumption) | exact Ne.symm (Nat.ne_of_lt (by assumption)) | fail "k_ne"))
  k_with "ktr_room" => (first | exact room_a (by with_reducible assumption) rfl | exact room_b (by with_reducible assumption) rfl | exact room_c (by with_reducible assumption) rfl | fail "room")
  k_with "ktr_units" => (first | exact room_a (by with_reducible assumption) rfl | exact room_b (by with_reducible assumption) rfl | exact room_c (by with_reducible assumption) rfl | fail "room")
  k_with "k_room" => (ktr_room)
  k_with "k_all" => (first | with_reducible assumption | exact all_gt (by assumption) (by ((try dsimp only); omega)))
  k_with "k_all" => (exact all_gtT (by assumption) (by ((try dsimp only); omega)))
  k_with "k_mem" => (assumption)
  k_with "exec For Name Attribute cons nil" => ((k_here; k_dflt (refine For_S ?_)))
  trivial
noncomputable def ComesNv (prog : Program) (w : World) (dd cc : Nat) (f : Addr) (news : List (Addr × Obj)) (vs : List Value) (P : Value → List (Addr × Obj) → Prop) (p : Program) (loose : List Str) (mean : ExcName → Option Value) (mg mb : Str → Option Value) (dp un : Nat) (gd : Option (List Code)) (cn : Str) (cs : Scope) (a : Addr) (ccd : Value) (cl : List (Str × Addr)) (outer : List Env) (A₀ : Around) (base h₀ : Heap) (L : Addr) (m : Str → Option Value) (s : Shared) (Q E : Value → Shared → Prop) : Prop :=
    Below A₀ base outer h₀ → Fr h₀ L s.heap m → (hd.heap_1 w.params).In h₀ → News h₀ L s.heap news → Top p loose mean mg mb h₀ → CodeHd base 108 104 → CodeHd base 160 156 → cs.kind = .function → dp + dd < recursionLimit → un + cc < cLine →
    (∀ v nw h' tk', P v nw → Fr h₀ L h' m → News h₀ L h' nw → Q v { s with heap := h', toks := tk' }) →
    wpAny (model prog w) (ktrTop dp un gd cn cs L a ccd cl outer) (call (.ref f) vs) Q E s
noncomputable def ComesN (prog : Program) (w : World) (dd cc : Nat) (f : Addr) (news : List (Addr × Obj)) (vs : List Value) (P : Value → List (Addr × Obj) → Prop) : Prop :=
  ∀ (p : Program) (loose : List Str) (mean : ExcName → Option Value) (mg mb : Str → Option Value) (dp un : Nat) (gd : Option (List Code)) (cn : Str) (cs : Scope) (a : Addr) (ccd : Value) (cl : List (Str × Addr)) (outer : List Env) (A₀ : Around)
    (base h₀ : Heap) (L : Addr) (m : Str → Option Value) (s : Shared) (Q E : Value → Shared → Prop),
    ComesNv prog w dd cc f news vs P p loose mean mg mb dp un gd cn cs a ccd cl outer A₀ base h₀ L m s Q E
noncomputable def recD (P : Params) (U RL : Addr) (t1 t2 t3 t4 : Tok) : Obj := dictOf [⟨PyData.keyHash P (Str.ofString "useragents"), .str (Str.ofString "useragents") t1, .ref U⟩, ⟨PyData.keyHash P (Str.ofString "rulelines"), .str (Str.ofString "rulelines") t2, .ref RL⟩,
  ⟨PyData.keyHash P (Str.ofString "delay"), .str (Str.ofString "delay") t3, .none⟩, ⟨PyData.keyHash P (Str.ofString "req_rate"), .str (Str.ofString "req_rate") t4, .none⟩] 4
noncomputable def TruthV (prog : Program) (w : World) (v : Value) (b : Bool) (news : List (Addr × Obj)) : Prop :=
  ∀ (A : Around) (E : Value → Shared → Prop) (s : Shared) (h₀ : Heap) (L : Addr) (Q : Bool → Shared → Prop), News h₀ L s.heap news → (∀ tk, Q b { s with toks := tk }) → wpAny (model prog w) A (truthy v) Q E s
set_option genInjectivity false in
set_option genSizeOf false in
structure RI where
  x : Addr
  v : Value
  tv : Bool
  j : Int
  tj : Tok
  r : Int
inductive RuleIn (prog : Program) (w : World) (nt : Addr) (news : List (Addr × Obj)) (name : Str) (q : RI) : Prop
  | mk (d U RL f t1 t2 t3 t4 t5 t6 fs rt tob DT : _) (zz1 : (q.x, instObj 52 d) ∈ news) (zz2 : (d, ruleD w.params U RL f q.v t1 t2 t3 t4 t5 t6) ∈ news) (zz3 : AskC prog w f fs q.j q.tj rt nt) (zz4 : (∀ p ∈ fs, p ∈ news)) (zz5 : (rt, tob) ∈ news) (zz6 : (∀ h : Heap, h.get? rt = some tob → StrTab prog w h rt DT)) (zz7 : Spec.lookup (PyData.str name) DT = some (.int q.r)) (zz8 : -1 ≤ q.r) (zz9 : handedIn q.v = true) (zz10 : TruthV prog w q.v q.tv news) : RuleIn prog w nt news name q
noncomputable def bestStep (a : Int × Value × Bool) (q : RI) : Int × Value × Bool :=
  if q.r + 1 = 0 then a else if a.1 < q.r + 1 then (q.r + 1, q.v, q.tv) else if q.r + 1 = a.1 ∧ a.2.2 = false then (a.1, q.v, q.tv) else a
noncomputable def bestOf (rs : List RI) : Int × Value × Bool := rs.foldl bestStep (-1, .bool true, true)
noncomputable def NotesIn (rs : List RI) (name : Str) (t : Tok) (Ts : List Addr) (nx : List (Addr × Obj)) : Prop :=
  Ts.length = rs.length ∧ ∀ (k : Nat) (q : RI) (T : Addr), rs[k]? = some q → Ts[k]? = some T → (T, ({ cls := .type "tuple", data := .seq #[.int q.j q.tj, .str name t] } : Obj)) ∈ nx
inductive AlwJ (g : Heap) (m₀ : Str → Option Value) (nt : Addr) (news : List (Addr × Obj)) (ns : Array Value) (rs : List RI) (name : Str) (t : Tok) (i : Nat) (h₀ : Heap) (m : Str → Option Value) (nx : List (Addr × Obj)) : Prop
  | mk (zz1 : h₀ = g) (Ts : List Addr) (tls : List (Addr × Obj)) (c : Nat) (ub : Tok) (uo : Str → Option Value) (zz2 : m = (fun z => if z = Str.ofString "allowance" then some (bestOf (rs.take i)).2.1 else if z = Str.ofString "best_match" then some (.int (bestOf (rs.take i)).1 ub) else if [Str.ofString "line", Str.ofString "m"].contains z then uo z else m₀ z)) (zz3 : nx = (nt, ({ cls := .type "list", data := .seq (ns ++ (Ts.map Value.ref).toArray) c } : Obj)) :: (tls ++ news)) (zz4 : NotesIn (rs.take i) name t Ts tls) (zz5 : (∀ p ∈ tls, p.1 ≠ nt)) : AlwJ g m₀ nt news ns rs name t i h₀ m nx
inductive AllowOut (prog : Program) (w : World) (nt : Addr) (news : List (Addr × Obj)) (ns : Array Value) (rs : List RI) (name : Str) (t : Tok) (v : Value) (nw : List (Addr × Obj)) : Prop
  | mk (Ts : List Addr) (tls : List (Addr × Obj)) (c : Nat) (zz1 : v = (bestOf rs).2.1) (zz2 : nw = (nt, ({ cls := .type "list", data := .seq (ns ++ (Ts.map Value.ref).toArray) c } : Obj)) :: (tls ++ news)) (zz3 : NotesIn rs name t Ts tls) (zz4 : ∀ p ∈ tls, p.1 ≠ nt) : AllowOut prog w nt news ns rs name t v nw
theorem alw_map0 {m₁ : Str → Option Value} {a b : Option Value} : (fun z => if z = Str.ofString "allowance" then a else if z = Str.ofString "best_match" then b else m₁ z) = (fun z => if z = Str.ofString "allowance" then a else if z = Str.ofString "best_match" then b else if [Str.ofString "line", Str.ofString "m"].contains z then (fun z => if z = Str.ofString "allowance" then a else if z = Str.ofString "best_match" then b else m₁ z) z else (fun z => if z = Str.ofString "allowance" then a else if z = Str.ofString "best_match" then b else m₁ z) z) := by
  funext z
  by_cases c1 : z = Str.ofString "allowance"
  · rw [if_pos c1, if_pos c1]
  · rw [if_neg c1, if_neg c1]
    by_cases c2 : z = Str.ofString "best_match"
    · rw [if_pos c2, if_pos c2]
    · rw [if_neg c2, if_neg c2]
      simp only [if_neg c1, if_neg c2, ite_self]
theorem news_up {h₀ h : Heap} {L : Addr} {a b : Addr × Obj} {tls news : List (Addr × Obj)} (N : News h₀ L h (a :: b :: (tls ++ news))) : News h₀ L h (b :: (a :: (tls ++ news))) := KStt.news_of N fun p hp => by
  simp only [List.mem_cons, List.mem_append] at hp ⊢
  grind
theorem best_truth {prog : Program} {w : World} {news : List (Addr × Obj)} : ∀ (rs : List RI) (a : Int × Value × Bool), TruthV prog w a.2.1 a.2.2 news → (∀ q ∈ rs, TruthV prog w q.v q.tv news) → TruthV prog w (rs.foldl bestStep a).2.1 (rs.foldl bestStep a).2.2 news
  | [], a, h, _ => h
  | q :: rs, a, h, k => by
    refine best_truth rs _ ?_ fun q hq => k q (.tail _ hq)
    have hq := k q (.head _)
    unfold bestStep
    split
    · exact h
    · split
      · exact hq
      · split
        · exact hq
        · exact h
theorem truth_true {prog : Program} {w : World} {news : List (Addr × Obj)} : TruthV prog w (.bool true) true news := fun A E s h₀ L Q N h => wpAny_truthy_bool (h s.toks)
theorem TruthV.mono {prog : Program} {w : World} {v : Value} {b : Bool} {news news' : List (Addr × Obj)} (h : TruthV prog w v b news) (hs : ∀ p ∈ news, p ∈ news') : TruthV prog w v b news' := fun A E s h₀ L Q N k => h A E s h₀ L Q (fun p hp => N p (hs p hp)) k
theorem alw_ne {nt I : Addr} {o oI : Obj} {tls news : List (Addr × Obj)} (off : ∀ p ∈ (nt, o) :: (tls ++ news), p.1 ≠ I) (htl : ∀ p ∈ tls, p.1 ≠ nt) (hn : ∀ p ∈ news, p.1 ≠ nt) : ∀ p ∈ (I, oI) :: (tls ++ news), p.1 ≠ nt := fun p hp => by
  rcases List.mem_cons.mp hp with rfl | hp
  · exact Ne.symm (off (nt, o) (.head _))
  rcases List.mem_append.mp hp with hp | hp
  · exact htl p hp
  · exact hn p hp
theorem alw_up {a p : Addr × Obj} {tls news : List (Addr × Obj)} (hp : p ∈ news) : p ∈ a :: (tls ++ news) := .tail _ (List.mem_append_right _ hp)
theorem fnAt_of {h₀ h : Heap} {L f : Addr} {fo : Obj} {fd : FuncData} {nx : List (Addr × Obj)} (N : News h₀ L h nx) (hm : (f, fo) ∈ nx) (hd : fo.data = .func fd) : FnAt f h := by
  have := (N _ hm).1
  obtain ⟨c, d, dt, sl⟩ := fo
  simp only at hd
  subst hd
  exact ⟨_, _, _, _, this⟩
theorem news_tail3 {h₀ h : Heap} {L : Addr} {a b c : Addr × Obj} {tls news : List (Addr × Obj)} (N : News h₀ L h (a :: b :: c :: (tls ++ news))) : News h₀ L h news := fun p hp => N p (.tail _ (.tail _ (.tail _ (List.mem_append_right _ hp))))
theorem best_next {rs : List RI} {i : Nat} {q : RI} (h : rs[i]? = some q) : bestOf (rs.take (i + 1)) = bestStep (bestOf (rs.take i)) q := by
  have : rs.take (i + 1) = rs.take i ++ [q] := by rw [List.take_add_one, h]; rfl
  unfold bestOf
  rw [this, List.foldl_append]
  rfl
theorem alw_turn {g h : Heap} {L I nt T : Addr} {oI : Obj} {m' m₀ : Str → Option Value} {ns : Array Value} {Ts : List Addr} {tls news : List (Addr × Obj)} {c' : Nat} {rs : List RI} {name : Str} {t : Tok} {i : Nat} {q : RI} {b' : Int} {v' : Value} {tv' : Bool} {ub : Tok} {Q : Flow → Shared → Prop} {s : Shared} {tk : Tok} {on : Obj}
    (F : Fr g L h m') (N : News g L h ((nt, ({ cls := .type "list", data := .seq ((ns ++ (Ts.map Value.ref).toArray).push (.ref T)) c' } : Obj)) :: (T, ({ cls := .type "tuple", data := .seq #[.int q.j q.tj, .str name t] } : Obj)) :: (I, oI) :: (tls ++ news))) (hq : rs[i]? = some q) (hno : NotesIn (rs.take i) name t Ts tls) (htl : ∀ p ∈ tls, p.1 ≠ nt)
    (off : ∀ p ∈ (nt, on) :: (tls ++ news), p.1 ≠ I) (hT : T ≠ nt) (hTI : ∀ p ∈ (I, oI) :: (tls ++ news), p.1 ≠ T) (hb : bestStep (bestOf (rs.take i)) q = (b', v', tv')) (h1 : m' (Str.ofString "allowance") = some v') (h2 : m' (Str.ofString "best_match") = some (.int b' ub))
    (h3 : ∀ z, z ≠ Str.ofString "allowance" → z ≠ Str.ofString "best_match" → z ≠ Str.ofString "line" → z ≠ Str.ofString "m" → m' z = m₀ z) : TurnPost L I oI (AlwJ g m₀ nt news ns rs name t (i + 1)) Q s .next { s with heap := h, toks := tk } := by
  refine Back.intro F N (nx := (nt, ({ cls := .type "list", data := .seq (ns ++ ((Ts ++ [T]).map Value.ref).toArray) c' } : Obj)) :: (((T, ({ cls := .type "tuple", data := .seq #[.int q.j q.tj, .str name t] } : Obj)) :: tls) ++ news)) (fun p hp => ?_) (fun p hp => ?_) ⟨rfl, Ts ++ [T], (T, ({ cls := .type "tuple", data := .seq #[.int q.j q.tj, .str name t] } : Obj)) :: tls, c', ub, m', ?_, rfl, ⟨?_, fun k q' T' hk hT' => ?_⟩, fun p hp => ?_⟩
  · have e : (ns ++ ((Ts ++ [T]).map Value.ref).toArray) = (ns ++ (Ts.map Value.ref).toArray).push (.ref T) := by simp
    rw [e] at hp
    simp only [List.mem_cons, List.mem_append, List.cons_append] at hp ⊢
    grind
  · rcases List.mem_cons.mp hp with rfl | hp
    · exact off (nt, on) (.head _)
    rcases List.mem_cons.mp hp with rfl | hp
    · exact Ne.symm (hTI (I, oI) (.head _))
    · exact off p (.tail _ hp)
  · rw [best_next hq, hb]
    funext z
    by_cases c1 : z = Str.ofString "allowance"
    · rw [if_pos c1, c1]; exact h1
    · rw [if_neg c1]
      by_cases c2 : z = Str.ofString "best_match"
      · rw [if_pos c2, c2]; exact h2
      · rw [if_neg c2]
        by_cases c3 : z = Str.ofString "line"
        · subst c3; simp
        · by_cases c4 : z = Str.ofString "m"
          · subst c4; simp
          · rw [h3 z c1 c2 c3 c4]
            simp [c3, c4]
  · have := hno.1
    have hi := (List.getElem?_eq_some_iff.mp hq).1
    rw [List.length_take] at this
    simp
    omega
  · have hl := hno.1
    have hi := (List.getElem?_eq_some_iff.mp hq).1
    rw [List.length_take] at hl
    by_cases c : k < i
    · rw [List.getElem?_append_left (by omega)] at hT'
      rw [List.getElem?_take_of_lt (by omega)] at hk
      exact .tail _ (hno.2 k q' T' (by rw [List.getElem?_take_of_lt c]; exact hk) hT')
    · have hk2 : k = i := by
        have := (List.getElem?_eq_some_iff.mp hk).1
        simp at this
        omega
      subst hk2
      rw [List.getElem?_take_of_lt (by omega), hq] at hk
      cases hk
      rw [List.getElem?_append_right (by omega), show k - Ts.length = 0 by omega] at hT'
      simp at hT'
      subst hT'
      exact .head _
  · rcases List.mem_cons.mp hp with rfl | hp
    · exact hT
    · exact htl p hp
namespace Al
noncomputable def S0 (prog : Program) (w : World) (news : List (Addr × Obj)) (e de U RL nt : Addr) (t1 t2 t3 t4 : Tok) (cR cn : Nat) (ns : Array Value) (rs : List RI) (name : Str) (t : Tok) (p : Program) (loose : List Str) (mean : ExcName → Option Value) (mg : Str → Option Value) (mb : Str → Option Value) (dp : Nat) (un : Nat) (gd : Option (List Code)) (cnx : Str) (cnm : List (Str × NameKind)) (cig : Bool) (cic : Bool) (cmo : List (Str × Const)) (a : Addr) (ccd : Value) (cl : List (Str × Addr)) (outer : List Env) (A₀ : Around) (base : Heap) (h₀ : Heap) (L : Addr) (m : Str → Option Value) (s : Shared) (Q : Value → Shared → Prop) (E : Value → Shared → Prop) : Prop :=
  (e, instObj 52 de) ∈ news → (de, recD w.params U RL t1 t2 t3 t4) ∈ news → (RL, ({ cls := .type "list", data := .seq (rs.map fun q => Value.ref q.x).toArray cR } : Obj)) ∈ news → (∀ p ∈ news, p.1 ≠ nt) → (∀ q ∈ rs, RuleIn prog w nt news name q) → rs.length ≤ 10 → ns.size ≤ 100 → 
  ComesNv prog w 10 200 49 ((nt, ({ cls := .type "list", data := .seq ns cn } : Obj)) :: news) [.ref e, .str name t] (AllowOut prog w nt news ns rs name t) p loose mean mg mb dp un gd cnx ⟨.function, cnm, cig, cic, cmo⟩ a ccd cl outer A₀ base h₀ L m s Q E
noncomputable def P0 (x : Program × World × (List (Addr × Obj)) × Addr × Addr × Addr × Addr × Addr × Tok × Tok × Tok × Tok × Nat × Nat × Array Value × List RI × Str × Tok × Program × List Str × (ExcName → Option Value) × (Str → Option Value) × (Str → Option Value) × Nat × Nat × Option (List Code) × Str × (List (Str × NameKind)) × Bool × Bool × (List (Str × Const)) × Addr × Value × (List (Str × Addr)) × List Env × Around × Heap × Heap × Addr × (Str → Option Value) × Shared × (Value → Shared → Prop) × (Value → Shared → Prop)) : Prop := S0 x.1 x.2.1 x.2.2.1 x.2.2.2.1 x.2.2.2.2.1 x.2.2.2.2.2.1 x.2.2.2.2.2.2.1 x.2.2.2.2.2.2.2.1 x.2.2.2.2.2.2.2.2.1 x.2.2.2.2.2.2.2.2.2.1 x.2.2.2.2.2.2.2.2.2.2.1 x.2.2.2.2.2.2.2.2.2.2.2.1 x.2.2.2.2.2.2.2.2.2.2.2.2.1 x.2.2.2.2.2.2.2.2.2.2.2.2.2.1 x.2.2.2.2.2.2.2.2.2.2.2.2.2.2.1 x.2.2.2.2.2.2.2.2.2.2.2.2.2.2.2.1 x.2.2.2.2.2.2.2.2.2.2.2.2.2.2.2.2.1 x.2.2.2.2.2.2.2.2.2.2.2.2.2.2.2.2.2.1 x.2.2.2.2.2.2.2.2.2.2.2.2.2.2.2.2.2.2.1 x.2.2.2.2.2.2.2.2.2.2.2.2.2.2.2.2.2.2.2.1 x.2.2.2.2.2.2.2.2.2.2.2.2.2.2.2.2.2.2.2.2.1 x.2.2.2.2.2.2.2.2.2.2.2.2.2.2.2.2.2.2.2.2.2.1 x.2.2.2.2.2.2.2.2.2.2.2.2.2.2.2.2.2.2.2.2.2.2.1 x.2.2.2.2.2.2.2.2.2.2.2.2.2.2.2.2.2.2.2.2.2.2.2.1 x.2.2.2.2.2.2.2.2.2.2.2.2.2.2.2.2.2.2.2.2.2.2.2.2.1 x.2.2.2.2.2.2.2.2.2.2.2.2.2.2.2.2.2.2.2.2.2.2.2.2.2.1 x.2.2.2.2.2.2.2.2.2.2.2.2.2.2.2.2.2.2.2.2.2.2.2.2.2.2.1 x.2.2.2.2.2.2.2.2.2.2.2.2.2.2.2.2.2.2.2.2.2.2.2.2.2.2.2.1 x.2.2.2.2.2.2.2.2.2.2.2.2.2.2.2.2.2.2.2.2.2.2.2.2.2.2.2.2.1 x.2.2.2.2.2.2.2.2.2.2.2.2.2.2.2.2.2.2.2.2.2.2.2.2.2.2.2.2.2.1 x.2.2.2.2.2.2.2.2.2.2.2.2.2.2.2.2.2.2.2.2.2.2.2.2.2.2.2.2.2.2.1 x.2.2.2.2.2.2.2.2.2.2.2.2.2.2.2.2.2.2.2.2.2.2.2.2.2.2.2.2.2.2.2.1 x.2.2.2.2.2.2.2.2.2.2.2.2.2.2.2.2.2.2.2.2.2.2.2.2.2.2.2.2.2.2.2.2.1 x.2.2.2.2.2.2.2.2.2.2.2.2.2.2.2.2.2.2.2.2.2.2.2.2.2.2.2.2.2.2.2.2.2.1 x.2.2.2.2.2.2.2.2.2.2.2.2.2.2.2.2.2.2.2.2.2.2.2.2.2.2.2.2.2.2.2.2.2.2.1 x.2.2.2.2.2.2.2.2.2.2.2.2.2.2.2.2.2.2.2.2.2.2.2.2.2.2.2.2.2.2.2.2.2.2.2.1 x.2.2.2.2.2.2.2.2.2.2.2.2.2.2.2.2.2.2.2.2.2.2.2.2.2.2.2.2.2.2.2.2.2.2.2.2.1 x.2.2.2.2.2.2.2.2.2.2.2.2.2.2.2.2.2.2.2.2.2.2.2.2.2.2.2.2.2.2.2.2.2.2.2.2.2.1 x.2.2.2.2.2.2.2.2.2.2.2.2.2.2.2.2.2.2.2.2.2.2.2.2.2.2.2.2.2.2.2.2.2.2.2.2.2.2.1 x.2.2.2.2.2.2.2.2.2.2.2.2.2.2.2.2.2.2.2.2.2.2.2.2.2.2.2.2.2.2.2.2.2.2.2.2.2.2.2.1 x.2.2.2.2.2.2.2.2.2.2.2.2.2.2.2.2.2.2.2.2.2.2.2.2.2.2.2.2.2.2.2.2.2.2.2.2.2.2.2.2.1 x.2.2.2.2.2.2.2.2.2.2.2.2.2.2.2.2.2.2.2.2.2.2.2.2.2.2.2.2.2.2.2.2.2.2.2.2.2.2.2.2.2.1 x.2.2.2.2.2.2.2.2.2.2.2.2.2.2.2.2.2.2.2.2.2.2.2.2.2.2.2.2.2.2.2.2.2.2.2.2.2.2.2.2.2.2
noncomputable def k0 : Program × World × (List (Addr × Obj)) × Addr × Addr × Addr × Addr × Addr × Tok × Tok × Tok × Tok × Nat × Nat × Array Value × List RI × Str × Tok × Program × List Str × (ExcName → Option Value) × (Str → Option Value) × (Str → Option Value) × Nat × Nat × Option (List Code) × Str × (List (Str × NameKind)) × Bool × Bool × (List (Str × Const)) × Addr × Value × (List (Str × Addr)) × List Env × Around × Heap × Heap × Addr × (Str → Option Value) × Shared × (Value → Shared → Prop) × (Value → Shared → Prop) := henk (qv, aWorld 1, [], 0, 0, 0, 0, 0, default, default, default, default, 0, 0, #[], [], default, default, qv, [], fun _ => none, fun _ => none, fun _ => none, 0, 0, none, default, [], false, false, [], 0, .none, [], [], hen_a, default, default, 0, fun _ => none, hen_s, fun _ _ => True, fun _ _ => True) P0
@[irreducible] noncomputable def prog : Program := k0.1
@[irreducible] noncomputable def w : World := k0.2.1
@[irreducible] noncomputable def news : List (Addr × Obj) := k0.2.2.1
@[irreducible] noncomputable def e : Addr := k0.2.2.2.1
@[irreducible] noncomputable def de : Addr := k0.2.2.2.2.1
@[irreducible] noncomputable def U : Addr := k0.2.2.2.2.2.1
@[irreducible] noncomputable def RL : Addr := k0.2.2.2.2.2.2.1
@[irreducible] noncomputable def nt : Addr := k0.2.2.2.2.2.2.2.1
@[irreducible] noncomputable def t1 : Tok := k0.2.2.2.2.2.2.2.2.1
@[irreducible] noncomputable def t2 : Tok := k0.2.2.2.2.2.2.2.2.2.1
@[irreducible] noncomputable def t3 : Tok := k0.2.2.2.2.2.2.2.2.2.2.1
@[irreducible] noncomputable def t4 : Tok := k0.2.2.2.2.2.2.2.2.2.2.2.1
@[irreducible] noncomputable def cR : Nat := k0.2.2.2.2.2.2.2.2.2.2.2.2.1
@[irreducible] noncomputable def cn : Nat := k0.2.2.2.2.2.2.2.2.2.2.2.2.2.1
@[irreducible] noncomputable def ns : Array Value := k0.2.2.2.2.2.2.2.2.2.2.2.2.2.2.1
@[irreducible] noncomputable def rs : List RI := k0.2.2.2.2.2.2.2.2.2.2.2.2.2.2.2.1
@[irreducible] noncomputable def name : Str := k0.2.2.2.2.2.2.2.2.2.2.2.2.2.2.2.2.1
@[irreducible] noncomputable def t : Tok := k0.2.2.2.2.2.2.2.2.2.2.2.2.2.2.2.2.2.1
@[irreducible] noncomputable def p : Program := k0.2.2.2.2.2.2.2.2.2.2.2.2.2.2.2.2.2.2.1
@[irreducible] noncomputable def loose : List Str := k0.2.2.2.2.2.2.2.2.2.2.2.2.2.2.2.2.2.2.2.1
@[irreducible] noncomputable def mean : ExcName → Option Value := k0.2.2.2.2.2.2.2.2.2.2.2.2.2.2.2.2.2.2.2.2.1
@[irreducible] noncomputable def mg : Str → Option Value := k0.2.2.2.2.2.2.2.2.2.2.2.2.2.2.2.2.2.2.2.2.2.1
@[irreducible] noncomputable def mb : Str → Option Value := k0.2.2.2.2.2.2.2.2.2.2.2.2.2.2.2.2.2.2.2.2.2.2.1
@[irreducible] noncomputable def dp : Nat := k0.2.2.2.2.2.2.2.2.2.2.2.2.2.2.2.2.2.2.2.2.2.2.2.1
@[irreducible] noncomputable def un : Nat := k0.2.2.2.2.2.2.2.2.2.2.2.2.2.2.2.2.2.2.2.2.2.2.2.2.1
@[irreducible] noncomputable def gd : Option (List Code) := k0.2.2.2.2.2.2.2.2.2.2.2.2.2.2.2.2.2.2.2.2.2.2.2.2.2.1
@[irreducible] noncomputable def cnx : Str := k0.2.2.2.2.2.2.2.2.2.2.2.2.2.2.2.2.2.2.2.2.2.2.2.2.2.2.1
@[irreducible] noncomputable def cnm : List (Str × NameKind) := k0.2.2.2.2.2.2.2.2.2.2.2.2.2.2.2.2.2.2.2.2.2.2.2.2.2.2.2.1
@[irreducible] noncomputable def cig : Bool := k0.2.2.2.2.2.2.2.2.2.2.2.2.2.2.2.2.2.2.2.2.2.2.2.2.2.2.2.2.1
@[irreducible] noncomputable def cic : Bool := k0.2.2.2.2.2.2.2.2.2.2.2.2.2.2.2.2.2.2.2.2.2.2.2.2.2.2.2.2.2.1
@[irreducible] noncomputable def cmo : List (Str × Const) := k0.2.2.2.2.2.2.2.2.2.2.2.2.2.2.2.2.2.2.2.2.2.2.2.2.2.2.2.2.2.2.1
@[irreducible] noncomputable def a : Addr := k0.2.2.2.2.2.2.2.2.2.2.2.2.2.2.2.2.2.2.2.2.2.2.2.2.2.2.2.2.2.2.2.1
@[irreducible] noncomputable def ccd : Value := k0.2.2.2.2.2.2.2.2.2.2.2.2.2.2.2.2.2.2.2.2.2.2.2.2.2.2.2.2.2.2.2.2.1
@[irreducible] noncomputable def cl : List (Str × Addr) := k0.2.2.2.2.2.2.2.2.2.2.2.2.2.2.2.2.2.2.2.2.2.2.2.2.2.2.2.2.2.2.2.2.2.1
@[irreducible] noncomputable def outer : List Env := k0.2.2.2.2.2.2.2.2.2.2.2.2.2.2.2.2.2.2.2.2.2.2.2.2.2.2.2.2.2.2.2.2.2.2.1
@[irreducible] noncomputable def A₀ : Around := k0.2.2.2.2.2.2.2.2.2.2.2.2.2.2.2.2.2.2.2.2.2.2.2.2.2.2.2.2.2.2.2.2.2.2.2.1
@[irreducible] noncomputable def base : Heap := k0.2.2.2.2.2.2.2.2.2.2.2.2.2.2.2.2.2.2.2.2.2.2.2.2.2.2.2.2.2.2.2.2.2.2.2.2.1
@[irreducible] noncomputable def h₀ : Heap := k0.2.2.2.2.2.2.2.2.2.2.2.2.2.2.2.2.2.2.2.2.2.2.2.2.2.2.2.2.2.2.2.2.2.2.2.2.2.1
@[irreducible] noncomputable def L : Addr := k0.2.2.2.2.2.2.2.2.2.2.2.2.2.2.2.2.2.2.2.2.2.2.2.2.2.2.2.2.2.2.2.2.2.2.2.2.2.2.1
@[irreducible] noncomputable def m : Str → Option Value := k0.2.2.2.2.2.2.2.2.2.2.2.2.2.2.2.2.2.2.2.2.2.2.2.2.2.2.2.2.2.2.2.2.2.2.2.2.2.2.2.1
@[irreducible] noncomputable def s : Shared := k0.2.2.2.2.2.2.2.2.2.2.2.2.2.2.2.2.2.2.2.2.2.2.2.2.2.2.2.2.2.2.2.2.2.2.2.2.2.2.2.2.1
@[irreducible] noncomputable def Q : Value → Shared → Prop := k0.2.2.2.2.2.2.2.2.2.2.2.2.2.2.2.2.2.2.2.2.2.2.2.2.2.2.2.2.2.2.2.2.2.2.2.2.2.2.2.2.2.1
@[irreducible] noncomputable def E : Value → Shared → Prop := k0.2.2.2.2.2.2.2.2.2.2.2.2.2.2.2.2.2.2.2.2.2.2.2.2.2.2.2.2.2.2.2.2.2.2.2.2.2.2.2.2.2.2
theorem main : S0 prog w news e de U RL nt t1 t2 t3 t4 cR cn ns rs name t p loose mean mg mb dp un gd cnx cnm cig cic cmo a ccd cl outer A₀ base h₀ L m s Q E := by
  unfold S0 ComesNv
  intro he hde hRL hn hrs hl hns B F X N T C1 C2 hk hd hu hret
  unfold recD at hde
  refine wpAny_call ?_
  k_enter
  k_steps
  show wpAny _ _ _ _ _ _
  k_steps
  (with_reducible rename Fr _ _ _ _ => F1; with_reducible rename News _ _ _ _ => N1)
  refine wpAny_pyIter_list (News.isList N1 (.tail _ hRL)) ?_
  refine for_led (L := frL F1) (AlwJ (frBase F1) (frMap F1) nt news ns rs name t)
    (Walks.list (by rfl) _ RL (Nat.ne_of_lt (Heap.lt_size (N1 _ (.tail _ hRL)).1)) (rs.map fun q => Value.ref q.x).toArray) (fun _ => True) (fun i h st => by obtain ⟨o, e, _⟩ := st.1; exact ⟨o, e, trivial⟩) ?hSt (fun _ => rfl) ?turn ?done (F1.keeps fun _ _ e => Heap.get?_push_of_some _ e) (N1.grown fun _ _ e => Heap.get?_push_of_some _ e) (Ne.symm (Nat.ne_of_lt F1.ns.lt)) (next_is_new F1) (fun p hp => Nat.ne_of_lt (Heap.lt_size (N1 p hp).1)) ⟨⟨_, Heap.get?_push_size _ rfl, rfl, rfl⟩, (News.isList N1 (.tail _ hRL)).push _⟩ ⟨rfl, [], [], _, _, frMap F1, alw_map0, by simp; rfl, ⟨rfl, fun k q T h => by simp at h⟩, fun p hp => nomatch hp⟩
  case hSt =>
    intro i j h h' o h₀ m nx st e e' F2 N2 hj
    refine hideG ?_
    intro b9 hb9
    rcases hj with ⟨_, Ts, tls, c, ub, uo, _, rfl, _, _⟩
    refine hb9 ?_
    clear hb9 b9
    exact LCg.list_st i h h' o _ st e e' F2.keep N2 (.inr ⟨_, .tail _ (List.mem_append_right _ hRL), rfl, _, rfl⟩)
  case turn =>
    intro i v oI h₀2 m2 nx2 h2' tk2 E2 hi hv _ F2 N2 off2 hj
    refine hideG ?_
    intro b9 hb9
    rcases hj with ⟨rfl, Ts, tls, c, ub, uo, rfl, rfl, hno, htl⟩
    refine hb9 ?_
    clear hb9 b9
    obtain ⟨q, hq, rfl⟩ : ∃ q, rs[i]? = some q ∧ v = .ref q.x := by
      simp only [List.getElem?_toArray, List.getElem?_map, Option.map_eq_some_iff] at hv
      obtain ⟨q, h1, h2⟩ := hv
      exact ⟨q, h1, h2.symm⟩
    refine hideG ?_
    intro b9 hb9
    rcases hrs q (List.mem_of_getElem? hq) with ⟨d, Uq, RLq, f, t1', t2', t3', t4', t5', t6', fs, rt, tob, DT, r1, r2, r3, r4, r5, r6, r7, r8, hvh, r9⟩
    refine hb9 ?_
    clear hb9 b9
    dsimp only [frL, frBase, frMap] at F2 N2 off2 ⊢
    unfold ruleD at r2
    clear N1 F1 hv
    have Nq := news_up N2
    have hne := alw_ne (oI := oI) off2 htl hn
    have hup := fun p hp => alw_up (a := (nwHead2 Nq, oI)) (tls := tls) (news := news) (p := p) hp
    dsimp only [nwHead2] at hup
    have hfs := fun p hp => hup p (r4 p hp)
    have hrt := hup _ r5
    refine hideG ?_
    intro b9 hb9
    rcases r3.1 with ⟨fo, fd, hfm, hfd⟩
    refine hb9 ?_
    clear hb9 b9
    have hfm := hfs _ hfm
    have x1 := hup _ r1
    have x2 := hup _ r2
    have hTl : Ts.length ≤ 10 := by
      have := hno.1
      rw [List.length_take] at this
      omega
    have hsz : (ns ++ (Ts.map Value.ref).toArray).size ≤ 1000 := by
      simp only [Array.size_append, List.size_toArray, List.length_map]
      omega
    have htr : TruthV prog w (bestOf (rs.take i)).2.1 (bestOf (rs.take i)).2.2 news := best_truth _ _ truth_true fun q hq => by
      refine hideG ?_
      intro b9 hb9
      rcases hrs q (List.mem_of_mem_take hq) with ⟨_, _, _, _, _, _, _, _, _, _, _, _, _, _, _, _, _, _, _, _, _, _, _, z⟩
      refine hb9 ?_
      clear hb9 b9
      exact z
    clear N2
    (k_with "call ref" => ((with_reducible show wpAny _ _ (call (Value.ref _) [Value.str _ _]) _ _ _); k_here; k_dflt (refine' r3.2 _ _ _ _ _ _ _ _ _ _ _ _ _ _ _ _ _ _ _ _ _ _ _ _ _ _ ?aB ?aF ?aX ?aN hne hfs hrt r6 r7 hsz ?aT ?af ?ak ?ad ?au ?_; (case aB => k_asm); (case aF => k_asm); (case aX => k_asm); (case aN => k_asm); (case aT => k_asm); (case af => exact rfl); (case ak => exact rfl); (case ad => ktr_room); (case au => ktr_units)); intro T9 h' tk' u9 F' N' hT9 hT9'))
    (k_with "getMethod ref" => (k_here; (with_reducible rename News _ _ _ _ => N9); k_dflt (refine' method_shadow (K := _root_.hd.heap_1 w.params) ?h0 ⟨News.get N9 (.tail _ x1), rfl, rfl, News.get N9 (.tail _ x2)⟩ ?h1 ?h2 ?h3 ?h4 ?h5 ?h6 ?h8 ?h9 ?h7 ?_; (case h0 => k_in); (case h1 => k_is); (case h2 => k_is); (case h3 => k_is); (case h4 => k_is); (case h5 => rfl); (case h6 => k_is); (case h8 => k_is); (case h9 => k_is); (case h7 => rfl)); (try dsimp only)))
    (k_with "getAttr ref" => (k_here; (with_reducible rename News _ _ _ _ => N9); k_dflt (refine' get_value (K := _root_.hd.heap_1 w.params) ?h0 ⟨News.get N9 (.tail _ (.tail _ x1)), rfl, rfl, News.get N9 (.tail _ (.tail _ x2))⟩ ?h1 (findObj_shadow ?h6 ?h3 ?h8 ?h9 (by rw [lookIn_dict]; rfl)) ?h7 ?_; (case h0 => k_in); (case h1 => k_is); (case h3 => k_is); (case h6 => k_is); (case h8 => k_is); (case h9 => k_is); (case h7 => exact hvh)); (try dsimp only)))
    (k_with "truthy" => ((with_reducible rename News _ _ _ _ => N9); refine htr _ _ _ _ _ _ (news_tail3 N9) ?_; intro tk9; (cases hb9 : (bestOf (rs.take i)).2.2)))
    (k_with "callWith ref" => (k_here; (with_reducible rename News _ _ _ _ => N9); k_dflt (refine callWith_F (fnAt_of N9 (.tail _ hfm) hfd) ?_)))
    (k_with "FnAt" => (exact fnAt_of (by k_asm) (.tail _ hfm) hfd))
    k_steps
    all_goals (with_reducible rename Fr _ _ _ _ => F7; with_reducible rename News _ _ _ _ => N7)
    · exact alw_turn F7 N7 hq hno htl off2 hT9 hT9' (by unfold bestStep; rw [if_neg (by omega), if_pos (by with_reducible assumption)]) (by rfl) (by rfl) (fun z h1 h2 h3 h4 => by simp only [if_neg h1, if_neg h2, if_neg h3, if_neg h4]; simp [h3, h4])
    · have e3 : (bestOf (rs.take i)).1 = q.r + 1 := by first | (with_reducible assumption) | (symm; with_reducible assumption) | omega
      exact alw_turn F7 N7 hq hno htl off2 hT9 hT9' (by unfold bestStep; rw [if_neg (by omega), if_neg (by omega), if_pos ⟨e3.symm, hb9⟩]) (by rfl) (by rfl) (fun z h1 h2 h3 h4 => by simp only [if_neg h1, if_neg h2, if_neg h3, if_neg h4]; simp [h3, h4])
    · exact alw_turn F7 N7 hq hno htl off2 hT9 hT9' (by unfold bestStep; rw [if_neg (by omega), if_neg (by omega), if_neg (fun h => by rw [hb9] at h; exact absurd h.2 (by decide))]) (by rfl) (by rfl) (fun z h1 h2 h3 h4 => by simp only [if_neg h1, if_neg h2, if_neg h3, if_neg h4]; simp [h3, h4])
    · exact alw_turn F7 N7 hq hno htl off2 hT9 hT9' (by unfold bestStep; rw [if_neg (by omega), if_neg (by omega), if_neg (fun h => by have := h.1; (first | omega | (with_reducible contradiction)))]) (by rfl) (by rfl) (fun z h1 h2 h3 h4 => by simp only [if_neg h1, if_neg h2, if_neg h3, if_neg h4]; simp [h3, h4])
    · exact alw_turn F7 N7 hq hno htl off2 hT9 hT9' (by unfold bestStep; rw [if_pos (by omega)]) (by rfl) (by rfl) (fun z h1 h2 h3 h4 => by simp only [if_neg h1, if_neg h2, if_neg h3, if_neg h4]; simp [h3, h4])
  intro h₀2 m2 nx2 h2' tk2 F2 N2 hj
  refine hideG ?_
  intro b9 hb9
  rcases hj with ⟨rfl, Ts, tls, c, ub, uo, rfl, rfl, hno, htl⟩
  refine hb9 ?_
  clear hb9 b9
  dsimp only [frL, frBase, frMap] at F2 N2 ⊢
  clear N1 F1
  have ht : rs.take (rs.map fun q => Value.ref q.x).toArray.size = rs := by simp
  rw [ht] at F2 hno
  k_steps
  (with_reducible rename Fr _ _ _ _ => F7; with_reducible rename News _ _ _ _ => N7)
  exact hret _ _ _ _ ⟨Ts, tls, c, rfl, rfl, hno, htl⟩ (by k_asm) N7
end Al
theorem allow_call (prog : Program) (w : World) (news : List (Addr × Obj)) (e de U RL nt : Addr) (t1 t2 t3 t4 : Tok) (cR cn : Nat) (ns : Array Value) (rs : List RI) (name : Str) (t : Tok) (he : (e, instObj 52 de) ∈ news) (hde : (de, recD w.params U RL t1 t2 t3 t4) ∈ news) (hRL : (RL, ({ cls := .type "list", data := .seq (rs.map fun q => Value.ref q.x).toArray cR } : Obj)) ∈ news)
    (hn : ∀ p ∈ news, p.1 ≠ nt) (hrs : ∀ q ∈ rs, RuleIn prog w nt news name q) (hl : rs.length ≤ 10) (hns : ns.size ≤ 100) :
    ComesN prog w 10 200 49 ((nt, ({ cls := .type "list", data := .seq ns cn } : Obj)) :: news) [.ref e, .str name t] (AllowOut prog w nt news ns rs name t) := by
  intro p loose mean mg mb dp un gd cnx cs a ccd cl outer A₀ base h₀ L m s Q E B F X N T C1 C2 hk
  obtain ⟨ck, cnm, cig, cic, cmo⟩ := cs
  cases hk
  exact henk_all (P := Al.P0) (by with_unfolding_all exact Al.main) (prog, w, news, e, de, U, RL, nt, t1, t2, t3, t4, cR, cn, ns, rs, name, t, p, loose, mean, mg, mb, dp, un, gd, cnx, cnm, cig, cic, cmo, a, ccd, cl, outer, A₀, base, h₀, L, m, s, Q, E) he hde hRL hn hrs hl hns B F X N T C1 C2 rfl
end Lw
end
example : True := by k_with_none; w_top off; trivial
section
open PySem PySem.W PyProof.Rows
namespace Lw
example : True := by
  k_with_none
  k_with "omega" => ((fail_if_success (fail_if_success (omega (config := {})))); first | lia | omega (config := {}))
  k_with "callWith ref" => ((k_here; k_dflt (refine' callWith_K ?kAw90 ?kBw90 ?_; (case kAw90 => k_asm); (case kBw90 => k_is); k_whole)))
  k_with "eval Name" => ((k_here; (fail_if_success (with_reducible show wpAny _ _ (eval (Expr.Name _ _) (compEnvC _ _ _ _)) _ _ _)); k_dflt (first | (refine' nameX_L ?Fw91 ?vw91 ?_ ?aw91 ?bw91; (case bw91 => rfl); (case Fw91 => k_asm); (case aw91 => rfl); (case vw91 => rfl); k_whole) | (refine' nameX_C ?Nw92 ?cw92 ?mw92 ?dw92 ?_ ?aw92 ?bw92; (case bw92 => rfl); (case aw92 => rfl); (case Nw92 => k_asm); (case cw92 => rfl); (case mw92 => k_mem); (case dw92 => k_asm); k_whole) | (refine' nameX_K ?Fw93 ?Xw93 ?Tw93 ?ew93 ?_ ?aw93 ?bw93; (case bw93 => rfl); (case Fw93 => k_asm); (case Xw93 => k_asm); (case Tw93 => k_asm); (case aw93 => rfl); (case ew93 => k_is); k_whole) | (refine' nameX_B ?Fw94 ?Xw94 ?Tw94 ?ew94 ?vw94 ?nw94 ?_ ?aw94 ?bw94; (case bw94 => rfl); (case Fw94 => k_asm); (case Xw94 => k_asm); (case Tw94 => k_asm); (case aw94 => rfl); (case ew94 => k_is); (case vw94 => boot_fast); (case nw94 => decide); k_whole))))
  k_with "execs cons" => ((k_here; refine execs_G ?_; intro G9w hG9w))
  k_with "Go" => (((try dsimp only); first | (refine go_next_S (by with_reducible assumption) ?_; intro tSw) | refine go_ret (by with_reducible assumption) ?_ | refine go_cont (by with_reducible assumption) ?_ | refine go_brk (by with_reducible assumption) ?_))
  k_with "k_ne" => ((with_reducible first | assumption | exact Ne.symm (by assumption) | exact Nat.ne_of_lt (by assumption) | exact Ne.symm (Nat.ne_of_lt (by assumption)) | fail "k_ne"))
  k_with "ktr_room" => (first | exact room_a (by with_reducible assumption) rfl | exact room_b (by with_reducible assumption) rfl | exact room_c (by with_reducible assumption) rfl | fail "room")
  k_with "ktr_units" => (first | exact room_a (by with_reducible assumption) rfl | exact room_b (by with_reducible assumption) rfl | exact room_c (by with_reducible assumption) rfl | fail "room")
  k_with "k_room" => (ktr_room)
  k_with "k_all" => (first | with_reducible assumption | exact all_gt (by assumption) (by ((try dsimp only); omega)))
  k_with "k_all" => (exact all_gtT (by assumption) (by ((try dsimp only); omega)))
  k_with "k_mem" => (assumption)
  k_with "exec For Name Attribute cons nil" => ((k_here; k_dflt (refine For_S ?_)))
  k_with "exec For Name Name cons nil" => ((k_here; k_dflt (refine For_S ?_)))
  trivial
inductive RecOut (P : Params) (news : List (Addr × Obj)) (vs : List Value) (val : Value) (nw : List (Addr × Obj)) : Prop
  | mk (x d U RL t1 t2 t3 t4 c cu : _) (zz1 : val = .ref x) (zz2 : nw = (x, instObj 52 d) :: (d, recD P U RL t1 t2 t3 t4) :: (U, listOf #[] cu) :: (RL, ({ cls := .type "list", data := .seq vs.toArray c } : Obj)) :: news) (zz3 : (∀ p ∈ news, p.1 ≠ x)) (zz4 : (∀ p ∈ news, p.1 ≠ d)) (zz5 : (∀ p ∈ news, p.1 ≠ U)) (zz6 : (∀ p ∈ news, p.1 ≠ RL)) (zz7 : RL ≠ x) (zz8 : RL ≠ d) (zz9 : RL ≠ U) : RecOut P news vs val nw
inductive RecJ (g : Heap) (m₀ : Str → Option Value) (tl : List (Addr × Obj)) (RL : Addr) (vs : List Value) (i : Nat) (h₀ : Heap) (m : Str → Option Value) (nx : List (Addr × Obj)) : Prop
  | mk (zz1 : h₀ = g) (c : Nat) (ub : Option Value) (zz2 : m = (fun z => if z = Str.ofString "rule" then ub else m₀ z)) (zz3 : nx = (RL, ({ cls := .type "list", data := .seq (vs.take i).toArray c } : Obj)) :: tl) : RecJ g m₀ tl RL vs i h₀ m nx
theorem rec_map0 {m₁ : Str → Option Value} : m₁ = (fun z => if z = Str.ofString "rule" then m₁ (Str.ofString "rule") else m₁ z) := by
  funext z
  by_cases c1 : z = Str.ofString "rule"
  · rw [if_pos c1, c1]
  · rw [if_neg c1]
theorem rec_mem {a b c d q : Addr × Obj} {l : List (Addr × Obj)} (h : q ∈ l) : q ∈ a :: b :: c :: d :: l := .tail _ (.tail _ (.tail _ (.tail _ h)))
noncomputable abbrev recTl {g h : Heap} {L : Addr} {p : Addr × Obj} {l : List (Addr × Obj)} (_ : News g L h (p :: l)) : List (Addr × Obj) := l
theorem rec_turn {g h : Heap} {L I RL : Addr} {oI : Obj} {m' m₀ : Str → Option Value} {tl : List (Addr × Obj)} {vs : List Value} {v : Value} {i c' : Nat} {Q : Flow → Shared → Prop} {s : Shared} {tk : Tok} {on : Obj} (F : Fr g L h m') (N : News g L h ((I, oI) :: (RL, ({ cls := .type "list", data := .seq ((vs.take i).toArray.push v) c' } : Obj)) :: tl)) (hv : vs.toArray[i]? = some v)
    (hm : ∀ z, z ≠ Str.ofString "rule" → m' z = m₀ z) (off : ∀ p ∈ (RL, on) :: tl, p.1 ≠ I) : TurnPost L I oI (RecJ g m₀ tl RL vs (i + 1)) Q s .next { s with heap := h, toks := tk } := by
  have e : (vs.take (i + 1)).toArray = (vs.take i).toArray.push v := by
    rw [List.getElem?_toArray] at hv
    rw [List.take_add_one, hv]
    simp
  refine Back.intro F N (nx := (RL, ({ cls := .type "list", data := .seq (vs.take (i + 1)).toArray c' } : Obj)) :: tl) (fun p hp => ?_) (fun p hp => ?_) ⟨rfl, c', m' (Str.ofString "rule"), ?_, rfl⟩
  · rw [e] at hp
    simp only [List.mem_cons] at hp ⊢
    grind
  · rcases List.mem_cons.mp hp with rfl | hp
    · exact off (RL, on) (.head _)
    · exact off p (.tail _ hp)
  · funext z
    by_cases c1 : z = Str.ofString "rule"
    · rw [if_pos c1, c1]
    · rw [if_neg c1, hm z c1]
theorem rec_fin {P : Params} {h₀ h : Heap} {L x d U RL : Addr} {news : List (Addr × Obj)} {vs : List Value} {t1 t2 t3 t4 : Tok} {c : Nat} {G : Prop} (N : News h₀ L h ((RL, ({ cls := .type "list", data := .seq vs.toArray c } : Obj)) :: (U, listOf #[] 0) :: (x, instObj 52 d) :: (d, recD P U RL t1 t2 t3 t4) :: news))
    (k : ∀ nw, RecOut P news vs (.ref x) nw → News h₀ L h nw → G) (h1 : ∀ p ∈ news, p.1 ≠ x) (h2 : ∀ p ∈ news, p.1 ≠ d) (h3 : ∀ p ∈ news, p.1 ≠ U) (h4 : ∀ p ∈ news, p.1 ≠ RL) (h5 : RL ≠ x) (h6 : RL ≠ d) (h7 : RL ≠ U) : G :=
  k _ ⟨x, d, U, RL, t1, t2, t3, t4, c, 0, rfl, rfl, h1, h2, h3, h4, h5, h6, h7⟩ (KStt.news_of N fun p hp => by
    simp only [List.mem_cons] at hp ⊢
    grind)
noncomputable abbrev nwX {g h : Heap} {L x : Addr} {o : Obj} {p q : Addr × Obj} {l : List (Addr × Obj)} (_ : News g L h (p :: q :: (x, o) :: l)) : Addr := x
noncomputable abbrev nwD {g h : Heap} {L x : Addr} {o : Obj} {p q r : Addr × Obj} {l : List (Addr × Obj)} (_ : News g L h (p :: q :: r :: (x, o) :: l)) : Addr := x
namespace Rd
noncomputable def S0 (prog : Program) (w : World) (news : List (Addr × Obj)) (la : Addr) (c : Nat) (rs : List Addr) (p : Program) (loose : List Str) (mean : ExcName → Option Value) (mg : Str → Option Value) (mb : Str → Option Value) (dp : Nat) (un : Nat) (gd : Option (List Code)) (cn : Str) (cnm : List (Str × NameKind)) (cig : Bool) (cic : Bool) (cmo : List (Str × Const)) (a : Addr) (ccd : Value) (cl : List (Str × Addr)) (outer : List Env) (A₀ : Around) (base : Heap) (h₀ : Heap) (L : Addr) (m : Str → Option Value) (s : Shared) (Q : Value → Shared → Prop) (E : Value → Shared → Prop) : Prop :=
  (la, ({ cls := .type "list", data := .seq (rs.map Value.ref).toArray c } : Obj)) ∈ news → rs.length ≤ 10 → 
  ComesNv prog w 10 200 168 news [.ref la] (RecOut w.params news (rs.map Value.ref)) p loose mean mg mb dp un gd cn ⟨.function, cnm, cig, cic, cmo⟩ a ccd cl outer A₀ base h₀ L m s Q E
noncomputable def P0 (x : Program × World × (List (Addr × Obj)) × Addr × Nat × List Addr × Program × List Str × (ExcName → Option Value) × (Str → Option Value) × (Str → Option Value) × Nat × Nat × Option (List Code) × Str × (List (Str × NameKind)) × Bool × Bool × (List (Str × Const)) × Addr × Value × (List (Str × Addr)) × List Env × Around × Heap × Heap × Addr × (Str → Option Value) × Shared × (Value → Shared → Prop) × (Value → Shared → Prop)) : Prop := S0 x.1 x.2.1 x.2.2.1 x.2.2.2.1 x.2.2.2.2.1 x.2.2.2.2.2.1 x.2.2.2.2.2.2.1 x.2.2.2.2.2.2.2.1 x.2.2.2.2.2.2.2.2.1 x.2.2.2.2.2.2.2.2.2.1 x.2.2.2.2.2.2.2.2.2.2.1 x.2.2.2.2.2.2.2.2.2.2.2.1 x.2.2.2.2.2.2.2.2.2.2.2.2.1 x.2.2.2.2.2.2.2.2.2.2.2.2.2.1 x.2.2.2.2.2.2.2.2.2.2.2.2.2.2.1 x.2.2.2.2.2.2.2.2.2.2.2.2.2.2.2.1 x.2.2.2.2.2.2.2.2.2.2.2.2.2.2.2.2.1 x.2.2.2.2.2.2.2.2.2.2.2.2.2.2.2.2.2.1 x.2.2.2.2.2.2.2.2.2.2.2.2.2.2.2.2.2.2.1 x.2.2.2.2.2.2.2.2.2.2.2.2.2.2.2.2.2.2.2.1 x.2.2.2.2.2.2.2.2.2.2.2.2.2.2.2.2.2.2.2.2.1 x.2.2.2.2.2.2.2.2.2.2.2.2.2.2.2.2.2.2.2.2.2.1 x.2.2.2.2.2.2.2.2.2.2.2.2.2.2.2.2.2.2.2.2.2.2.1 x.2.2.2.2.2.2.2.2.2.2.2.2.2.2.2.2.2.2.2.2.2.2.2.1 x.2.2.2.2.2.2.2.2.2.2.2.2.2.2.2.2.2.2.2.2.2.2.2.2.1 x.2.2.2.2.2.2.2.2.2.2.2.2.2.2.2.2.2.2.2.2.2.2.2.2.2.1 x.2.2.2.2.2.2.2.2.2.2.2.2.2.2.2.2.2.2.2.2.2.2.2.2.2.2.1 x.2.2.2.2.2.2.2.2.2.2.2.2.2.2.2.2.2.2.2.2.2.2.2.2.2.2.2.1 x.2.2.2.2.2.2.2.2.2.2.2.2.2.2.2.2.2.2.2.2.2.2.2.2.2.2.2.2.1 x.2.2.2.2.2.2.2.2.2.2.2.2.2.2.2.2.2.2.2.2.2.2.2.2.2.2.2.2.2.1 x.2.2.2.2.2.2.2.2.2.2.2.2.2.2.2.2.2.2.2.2.2.2.2.2.2.2.2.2.2.2
noncomputable def k0 : Program × World × (List (Addr × Obj)) × Addr × Nat × List Addr × Program × List Str × (ExcName → Option Value) × (Str → Option Value) × (Str → Option Value) × Nat × Nat × Option (List Code) × Str × (List (Str × NameKind)) × Bool × Bool × (List (Str × Const)) × Addr × Value × (List (Str × Addr)) × List Env × Around × Heap × Heap × Addr × (Str → Option Value) × Shared × (Value → Shared → Prop) × (Value → Shared → Prop) := henk (qv, aWorld 1, [], 0, 0, [], qv, [], fun _ => none, fun _ => none, fun _ => none, 0, 0, none, default, [], false, false, [], 0, .none, [], [], hen_a, default, default, 0, fun _ => none, hen_s, fun _ _ => True, fun _ _ => True) P0
@[irreducible] noncomputable def prog : Program := k0.1
@[irreducible] noncomputable def w : World := k0.2.1
@[irreducible] noncomputable def news : List (Addr × Obj) := k0.2.2.1
@[irreducible] noncomputable def la : Addr := k0.2.2.2.1
@[irreducible] noncomputable def c : Nat := k0.2.2.2.2.1
@[irreducible] noncomputable def rs : List Addr := k0.2.2.2.2.2.1
@[irreducible] noncomputable def p : Program := k0.2.2.2.2.2.2.1
@[irreducible] noncomputable def loose : List Str := k0.2.2.2.2.2.2.2.1
@[irreducible] noncomputable def mean : ExcName → Option Value := k0.2.2.2.2.2.2.2.2.1
@[irreducible] noncomputable def mg : Str → Option Value := k0.2.2.2.2.2.2.2.2.2.1
@[irreducible] noncomputable def mb : Str → Option Value := k0.2.2.2.2.2.2.2.2.2.2.1
@[irreducible] noncomputable def dp : Nat := k0.2.2.2.2.2.2.2.2.2.2.2.1
@[irreducible] noncomputable def un : Nat := k0.2.2.2.2.2.2.2.2.2.2.2.2.1
@[irreducible] noncomputable def gd : Option (List Code) := k0.2.2.2.2.2.2.2.2.2.2.2.2.2.1
@[irreducible] noncomputable def cn : Str := k0.2.2.2.2.2.2.2.2.2.2.2.2.2.2.1
@[irreducible] noncomputable def cnm : List (Str × NameKind) := k0.2.2.2.2.2.2.2.2.2.2.2.2.2.2.2.1
@[irreducible] noncomputable def cig : Bool := k0.2.2.2.2.2.2.2.2.2.2.2.2.2.2.2.2.1
@[irreducible] noncomputable def cic : Bool := k0.2.2.2.2.2.2.2.2.2.2.2.2.2.2.2.2.2.1
@[irreducible] noncomputable def cmo : List (Str × Const) := k0.2.2.2.2.2.2.2.2.2.2.2.2.2.2.2.2.2.2.1
@[irreducible] noncomputable def a : Addr := k0.2.2.2.2.2.2.2.2.2.2.2.2.2.2.2.2.2.2.2.1
@[irreducible] noncomputable def ccd : Value := k0.2.2.2.2.2.2.2.2.2.2.2.2.2.2.2.2.2.2.2.2.1
@[irreducible] noncomputable def cl : List (Str × Addr) := k0.2.2.2.2.2.2.2.2.2.2.2.2.2.2.2.2.2.2.2.2.2.1
@[irreducible] noncomputable def outer : List Env := k0.2.2.2.2.2.2.2.2.2.2.2.2.2.2.2.2.2.2.2.2.2.2.1
@[irreducible] noncomputable def A₀ : Around := k0.2.2.2.2.2.2.2.2.2.2.2.2.2.2.2.2.2.2.2.2.2.2.2.1
@[irreducible] noncomputable def base : Heap := k0.2.2.2.2.2.2.2.2.2.2.2.2.2.2.2.2.2.2.2.2.2.2.2.2.1
@[irreducible] noncomputable def h₀ : Heap := k0.2.2.2.2.2.2.2.2.2.2.2.2.2.2.2.2.2.2.2.2.2.2.2.2.2.1
@[irreducible] noncomputable def L : Addr := k0.2.2.2.2.2.2.2.2.2.2.2.2.2.2.2.2.2.2.2.2.2.2.2.2.2.2.1
@[irreducible] noncomputable def m : Str → Option Value := k0.2.2.2.2.2.2.2.2.2.2.2.2.2.2.2.2.2.2.2.2.2.2.2.2.2.2.2.1
@[irreducible] noncomputable def s : Shared := k0.2.2.2.2.2.2.2.2.2.2.2.2.2.2.2.2.2.2.2.2.2.2.2.2.2.2.2.2.1
@[irreducible] noncomputable def Q : Value → Shared → Prop := k0.2.2.2.2.2.2.2.2.2.2.2.2.2.2.2.2.2.2.2.2.2.2.2.2.2.2.2.2.2.1
@[irreducible] noncomputable def E : Value → Shared → Prop := k0.2.2.2.2.2.2.2.2.2.2.2.2.2.2.2.2.2.2.2.2.2.2.2.2.2.2.2.2.2.2
theorem main : S0 prog w news la c rs p loose mean mg mb dp un gd cn cnm cig cic cmo a ccd cl outer A₀ base h₀ L m s Q E := by
  unfold S0 ComesNv
  intro hla hl B F X N T C1 C2 hk hd hu hret
  have hl2 : (rs.map Value.ref).length ≤ 10 := by rw [List.length_map]; exact hl
  refine exR (rs.map Value.ref) fun vs hvs => ?_
  rw [← hvs] at hla hl2 hret
  refine wpAny_call ?_
  k_enter
  k_steps
  show wpAny _ _ _ _ _ _
  k_steps
  (with_reducible rename Fr _ _ _ _ => F1; with_reducible rename News _ _ _ _ => N1)
  have q1 := N1 _ (.head _)
  have q2 := N1 _ (.tail _ (.head _))
  have q3 := N1 _ (.tail _ (.tail _ (.head _)))
  refine wpAny_pyIter_list (News.isList N1 (rec_mem hla)) ?_
  refine for_led (L := frL F1) (RecJ (frBase F1) (frMap F1) (recTl N1) (nwHead N1) vs)
    (Walks.list (by rfl) _ la (Nat.ne_of_lt (Heap.lt_size (N1 _ (rec_mem hla)).1)) vs.toArray) (fun _ => True) (fun i h st => by obtain ⟨o, e, _⟩ := st.1; exact ⟨o, e, trivial⟩) ?hSt (fun _ => rfl) ?turn ?done (F1.keeps fun _ _ e => Heap.get?_push_of_some _ e) (N1.grown fun _ _ e => Heap.get?_push_of_some _ e) (Ne.symm (Nat.ne_of_lt F1.ns.lt)) (next_is_new F1) (fun p hp => Nat.ne_of_lt (Heap.lt_size (N1 p hp).1)) ⟨⟨_, Heap.get?_push_size _ rfl, rfl, rfl⟩, (News.isList N1 (rec_mem hla)).push _⟩ ⟨rfl, _, frMap F1 (Str.ofString "rule"), rec_map0, by simp; rfl⟩
  case hSt =>
    intro i j h h' o h₀ m nx st e e' F2 N2 hj
    refine hideG ?_
    intro b9 hb9
    rcases hj with ⟨_, c', ub, _, rfl⟩
    refine hb9 ?_
    clear hb9 b9
    exact LCg.list_st i h h' o _ st e e' F2.keep N2 (.inr ⟨_, rec_mem hla, rfl, _, rfl⟩)
  case turn =>
    intro i v oI h₀2 m2 nx2 h2' tk2 E2 hi hv _ F2 N2 off2 hj
    refine hideG ?_
    intro b9 hb9
    rcases hj with ⟨rfl, c', ub, rfl, rfl⟩
    refine hb9 ?_
    clear hb9 b9
    dsimp only [frL, frBase, frMap, recTl, nwHead] at F2 N2 off2 ⊢
    clear N1 F1
    obtain ⟨r, rfl⟩ : ∃ r, v = .ref r := by
      subst hvs
      simp only [List.getElem?_toArray, List.getElem?_map, Option.map_eq_some_iff] at hv
      obtain ⟨q, h1, h2⟩ := hv
      exact ⟨q, h2.symm⟩
    have hI : @Ne Nat _ _ := off2 _ (.head _)
    dsimp only at hI
    have hsz : (vs.take i).toArray.size ≤ 10 := by
      simp only [List.size_toArray, List.length_take]
      omega
    k_steps
    (with_reducible rename Fr _ _ _ _ => F7; with_reducible rename News _ _ _ _ => N7)
    exact rec_turn F7 N7 hv (fun z hz => by simp only [if_neg hz]) off2
  intro h₀2 m2 nx2 h2' tk2 F2 N2 hj
  refine hideG ?_
  intro b9 hb9
  rcases hj with ⟨rfl, c', ub, rfl, rfl⟩
  refine hb9 ?_
  clear hb9 b9
  dsimp only [frL, frBase, frMap, recTl, nwHead] at F2 N2 ⊢
  clear N1 F1
  have ht : vs.take vs.toArray.size = vs := by simp
  rw [ht] at N2
  k_steps
  (with_reducible rename Fr _ _ _ _ => F7; with_reducible rename News _ _ _ _ => N7)
  have l3 := (by assumption : @LT.lt Nat instLTNat _ _ ∧ @LT.lt Nat instLTNat _ _ ∧ @LT.lt Nat instLTNat _ _ ∧ AllLt _ news)
  have l2 := (by assumption : @LT.lt Nat instLTNat _ _ ∧ @LT.lt Nat instLTNat _ _ ∧ AllLt _ news)
  have l1 := (by assumption : ∀ (p : Addr × Obj), p ∈ news → @LT.lt Nat instLTNat p.1 _)
  have l0 := (by assumption : @LT.lt Nat instLTNat (nwD N7) (nwX N7))
  dsimp only [nwX, nwD] at l0
  exact rec_fin (news := news) (vs := vs) N7 (fun nw P9 N9 => hret _ _ _ _ P9 (by k_asm) N9) (fun p hp => Nat.ne_of_lt (Nat.lt_trans (l1 p hp) l0)) (fun p hp => Nat.ne_of_lt (l1 p hp)) (all_gtT l2.2.2 (Nat.le_refl _)) (all_gtT l3.2.2.2 (Nat.le_refl _)) (Ne.symm (Nat.ne_of_lt l3.2.1)) (Ne.symm (Nat.ne_of_lt l3.2.2.1)) (Ne.symm (Nat.ne_of_lt l3.1))
end Rd
theorem record_call (prog : Program) (w : World) (news : List (Addr × Obj)) (la : Addr) (c : Nat) (rs : List Addr) (hla : (la, ({ cls := .type "list", data := .seq (rs.map Value.ref).toArray c } : Obj)) ∈ news) (hl : rs.length ≤ 10) :
    ComesN prog w 10 200 168 news [.ref la] (RecOut w.params news (rs.map Value.ref)) := by
  intro p loose mean mg mb dp un gd cn cs a ccd cl outer A₀ base h₀ L m s Q E B F X N T C1 C2 hk
  obtain ⟨ck, cnm, cig, cic, cmo⟩ := cs
  cases hk
  exact henk_all (P := Rd.P0) (by with_unfolding_all exact Rd.main) (prog, w, news, la, c, rs, p, loose, mean, mg, mb, dp, un, gd, cn, cnm, cig, cic, cmo, a, ccd, cl, outer, A₀, base, h₀, L, m, s, Q, E) hla hl B F X N T C1 C2 rfl
end Lw
end
example : True := by k_with_none; w_top off; trivial
section
open PySem PySem.W PyProof.Rows
namespace Lw
theorem find_set_contains : typeLookup (.type "set") "__contains__" = pure (some (.builtin "set.__contains__")) := by rw [typeLookup_type, builtinLookup_eq_fast]; kernel_rfl
theorem type_set_contains : typeOf (.builtin "set.__contains__") = pure (.type "method_descriptor") := by show builtinType _ = _; rw [builtinType_eq_fast]; kernel_rfl
theorem md_get : typeLookup (.type "method_descriptor") "__get__" = pure (some (.builtin "method_descriptor.__get__")) := by rw [typeLookup_type, builtinLookup_eq_fast]; kernel_rfl
theorem md_set : typeLookup (.type "method_descriptor") "__set__" = pure none := by rw [typeLookup_type, builtinLookup_eq_fast]; kernel_rfl
theorem md_del : typeLookup (.type "method_descriptor") "__delete__" = pure none := by rw [typeLookup_type, builtinLookup_eq_fast]; kernel_rfl
theorem set_ga : typeLookup (.type "set") "__getattribute__" = pure (some (.builtin "set.__getattribute__")) := by rw [typeLookup_type, builtinLookup_eq_fast]; kernel_rfl
theorem set_hook : typeLookup (.type "set") "__getattr__" = pure none := by rw [typeLookup_type, builtinLookup_eq_fast]; kernel_rfl
theorem slot_set_ga : Slot "set" "__getattribute__" "set.__getattribute__" :=
  .of (owner := "set") (n := "__getattribute__") (by rw [typeLookup_type, builtinLookup_eq_fast]; kernel_rfl) (by decide +kernel) (by decide +kernel) (by decide +kernel)
    (by first | exact .inl (by decide +kernel) | exact .inr (by decide +kernel)) (by rw [isSubtype_type]; kernel_rfl)
theorem slot_md_get : Slot "method_descriptor" "__get__" "method_descriptor.__get__" :=
  .of (owner := "method_descriptor") (n := "__get__") (by rw [typeLookup_type, builtinLookup_eq_fast]; kernel_rfl) (by decide +kernel) (by decide +kernel) (by decide +kernel)
    (by first | exact .inl (by decide +kernel) | exact .inr (by decide +kernel)) (by rw [isSubtype_type]; kernel_rfl)
theorem entry_set_ga : entryFor table "set.__getattribute__" = some Builtin.«object.__getattribute__» :=
  entryFor_alias (id' := "object.__getattribute__") (by kernel_rfl) (by decide +kernel) (by decide +kernel) (by kernel_rfl)
theorem entry_md_get : entryFor table "method_descriptor.__get__" = some Builtin.«method_descriptor.__get__» := entryFor_of_tree (by kernel_rfl)
theorem args_set_ga_2 (a b : Value) : argsOk "set.__getattribute__" ⟨[a, b], []⟩ := by unfold argsOk; kernel_rfl
theorem args_md_get_3 (a b c : Value) : argsOk "method_descriptor.__get__" ⟨[a, b, c], []⟩ := by unfold argsOk; kernel_rfl
noncomputable abbrev bmObj (a : Addr) : Obj := { cls := .type "builtin_function_or_method", data := .fields #[.builtin "set.__contains__", .ref a] }
theorem meets_md_get (a : Addr) : Meets (Builtin.«method_descriptor.__get__» ⟨[.builtin "set.__contains__", .ref a, .type "set"], []⟩) (fun _ R s => s.TypeIs (.ref a) "set" ∧ R (.ok (.ret (.ref s.heap.objs.size))) { s with heap := s.heap.push (bmObj a) }) :=
  Meets.of_wp fun prog w A R s hs => by
    obtain ⟨hp, g, d, tk, os⟩ := s
    obtain ⟨hT, hs⟩ := hs
    have hsub : isSubtype (.type "set") (.type "set") = pure true := by rw [isSubtype_type]; kernel_rfl
    have hcon : Manifest.toldItsClass.contains "set.__contains__" = false := by decide +kernel
    have hown : ".".intercalate ("set.__contains__".cutAt '.').dropLast = "set" := by decide +kernel
    unfold Builtin.«method_descriptor.__get__»
    wp_walk
    rw [hown]
    wp_walk
    exact ⟨_, rfl, hs⟩
theorem meets_ga_set (a : Addr) (u : Tok) (es : Array (Int × Value)) (ep : Nat) (t : SetTable) : Meets (Builtin.«object.__getattribute__» ⟨[.ref a, .str "__contains__" u], []⟩) (fun _ R s => s.heap.get? a = some { cls := .type "set", dict := none, data := .set es ep t } ∧ R (.ok (.ret (.ref s.heap.objs.size))) { s with heap := s.heap.push (bmObj a) }) :=
  Meets.of_wp fun prog w A R s hs => by
    obtain ⟨hp, g, d, tk, os⟩ := s
    obtain ⟨hx, hs⟩ := hs
    have hT : (⟨hp, g, d, tk, os⟩ : Shared).TypeIs (.ref a) "set" := ⟨_, hx, rfl⟩
    have f1 := find_set_contains
    have f2 := type_set_contains
    have f3 := md_get
    have f4 := md_set
    have f5 := md_del
    unfold Builtin.«object.__getattribute__»
    repeat (any_goals (first | assumption | ((with_reducible show wpAny _ _ (call (Value.builtin "method_descriptor.__get__") _ _) _ _ _); refine call_meets slot_md_get type_set_contains entry_md_get (args_md_get_3 _ _ _) (meets_md_get a) ⟨hT, ?_⟩) | wp_step))
    show wpAny _ _ _ _ _ _
    exact wpAny_pure ⟨_, rfl, hs⟩
theorem getAttr_set_contains {prog : Program} {w : World} {A : Around} {E : Value → Shared → Prop} {s : Shared} {a : Addr} {o : Obj} {Q : Value → Shared → Prop} {es : Array (Int × Value)} {ep : Nat} {t : SetTable}
    (hx : s.heap.get? a = some o) (hc : o.cls = .type "set") (hd : o.dict = none) (hs : o.slots = #[]) (hdat : o.data = .set es ep t) (h : ∀ tk, Q (.ref s.heap.objs.size) { s with heap := s.heap.push (bmObj a), toks := tk }) : wpAny (model prog w) A (getAttr (.ref a) "__contains__" true) Q E s := by
  obtain ⟨c, dct, dat, sl⟩ := o
  simp only at hc hd hs hdat
  subst hc hd hs hdat
  obtain ⟨hp, g, d, tk, os⟩ := s
  have hT : ∀ tk', (⟨hp, g, d, tk', os⟩ : Shared).TypeIs (.ref a) "set" := fun _ => ⟨_, hx, rfl⟩
  have f3 := slot_set_ga.lookup
  have f4 := slot_set_ga.bind (.ref a)
  have f5 := set_hook
  unfold getAttr getAttrBy
  repeat (any_goals (first | assumption | exact hT _ | ((with_reducible show wpAny _ _ (call (Value.builtin "set.__getattribute__") _ _) _ _ _); refine call_meets slot_set_ga (hT _) entry_set_ga (args_set_ga_2 _ _) (meets_ga_set a _ _ _ _) ⟨hx, ?_⟩) | wp_step))
  show wpAny _ _ (handedOut _) _ _ _
  exact wpAny_pure (h _)
end Lw
end
example : True := by k_with_none; w_top off; trivial
section
open PySem PySem.W PyProof.Rows
namespace Lw
theorem slot_filter_init : Slot "filter" "__init__" "object.__init__" :=
  .of (owner := "object") (n := "__init__") (by rw [typeLookup_type, builtinLookup_eq_fast]; kernel_rfl) (by decide +kernel) (by decide +kernel) (by decide +kernel)
    (by first | exact .inl (by decide +kernel) | exact .inr (by decide +kernel)) (by rw [isSubtype_type]; kernel_rfl)
theorem slot_filter_next : Slot "filter" "__next__" "filter.__next__" :=
  .of (owner := "filter") (n := "__next__") (by rw [typeLookup_type, builtinLookup_eq_fast]; kernel_rfl) (by decide +kernel) (by decide +kernel) (by decide +kernel)
    (by first | exact .inl (by decide +kernel) | exact .inr (by decide +kernel)) (by rw [isSubtype_type]; kernel_rfl)
theorem entry_filter_next : entryFor table "filter.__next__" = some Builtin.«filter.__next__» := entryFor_of_tree (by kernel_rfl)
theorem mro_filter : mroOf (.type "filter") = pure [.type "filter", .type "object"] := by rw [mroOf_type]; kernel_rfl
theorem lookup_filter_new : typeLookup (.type "filter") "__new__" = pure (some (.builtin "filter.__new__")) := by rw [typeLookup_type, builtinLookup_eq_fast]; kernel_rfl
theorem called_filter : TypeCalled "filter" "filter.__new__" "object.__init__" :=
  ⟨by decide +kernel, by decide +kernel, ⟨_, _, mro_filter⟩, madeBy_type mro_filter lookup_filter_new (by decide +kernel), by decide +kernel, by rw [isSubtype_type]; kernel_rfl, slot_filter_init⟩
theorem typeCall_filter_2 (a b : Value) : checkTypeCall "filter" ⟨[a, b], []⟩ = pure () := by kernel_rfl
theorem newCall_filter_2 (a b : Value) : checkBuiltinCall "filter.__new__" ⟨[.type "filter", a, b], []⟩ = pure () := by kernel_rfl
theorem entry_filter_new : entryFor table "filter.__new__" = some Builtin.«filter.__new__» := entryFor_of_tree (by kernel_rfl)
theorem slot_filter_iter : Slot "filter" "__iter__" "filter.__iter__" :=
  .of (owner := "filter") (n := "__iter__") (by rw [typeLookup_type, builtinLookup_eq_fast]; kernel_rfl) (by decide +kernel) (by decide +kernel) (by decide +kernel)
    (by first | exact .inl (by decide +kernel) | exact .inr (by decide +kernel)) (by rw [isSubtype_type]; kernel_rfl)
theorem entry_filter_iter : entryFor table "filter.__iter__" = some Builtin.«dict_keyiterator.__iter__» :=
  entryFor_alias (id' := "dict_keyiterator.__iter__") (by kernel_rfl) (by first | rfl | decide +kernel | (unfold String.splitOn; simp +decide [String.splitOnAux])) (by decide +kernel) (by kernel_rfl)
theorem args_filter_next_1 (a : Value) : argsOk "filter.__next__" ⟨[a], []⟩ := by
  unfold argsOk; kernel_rfl
theorem args_filter_iter_1 (a : Value) : argsOk "filter.__iter__" ⟨[a], []⟩ := by unfold argsOk; kernel_rfl
theorem sub_filter : isSubtype (.type "filter") (.type "filter") = pure true := by rw [isSubtype_type]; kernel_rfl
theorem no_len_filter : typeLookup (.type "filter") "__len__" = pure none := by rw [typeLookup_type, builtinLookup_eq_fast]; kernel_rfl
theorem no_hint_filter : typeLookup (.type "filter") "__length_hint__" = pure none := by rw [typeLookup_type, builtinLookup_eq_fast]; kernel_rfl
noncomputable abbrev filObj (it : Addr) (f : Value) : Obj := { cls := .type "filter", data := .fields #[f, .ref it] }
open AutoSeq1 (wpAny_loadPart') in
theorem meets_filter_new (l : Addr) (items : Array Value) (f : Value) :
    Meets (Builtin.«filter.__new__» ⟨[.type "filter", f, .ref l], []⟩) (fun _ R s => s.heap.IsList l items ∧
      R (.ok (.ret (.ref (s.heap.push (itObj l 0)).objs.size))) { s with heap := (s.heap.push (itObj l 0)).push (filObj s.heap.objs.size f) }) :=
  .of_wp fun prog w A R s h => by
    obtain ⟨hp, g, d, tk, os⟩ := s; obtain ⟨hL, h⟩ := h
    have hsub := sub_filter
    wp_walk using wpAny_pyIter_list hL
    exact ⟨_, rfl, h⟩
section
variable {prog : Program} {w : World} {A : Around} {E : Value → Shared → Prop} {s : Shared} {h₀ : Heap} {L : Addr} {m : Str → Option Value} {news : List (Addr × Obj)}
theorem call_filter_N {l : Addr} {vs : Array Value} {n : Nat} {f : Value} {Q : Value → Shared → Prop} (Fh : Fr h₀ L s.heap m) (N : News h₀ L s.heap news) (hl : (l, ({ cls := .type "list", data := .seq vs n } : Obj)) ∈ news)
    (h : ∀ I it h', Fr h₀ L h' m → News h₀ L h' ((I, filObj it f) :: (it, itObj l 0) :: news) → (∀ p ∈ news, p.1 < it) → it < I → Q (.ref I) { s with heap := h' }) :
    wpAny (model prog w) A (call (.type "filter") [f, .ref l]) Q E s := by
  have hL : s.heap.IsList l vs := ⟨_, (N _ hl).1, rfl, n, rfl⟩
  refine callType_new called_filter (by decide) (typeCall_filter_2 _ _) (newCall_filter_2 _ _) (fun obj => args_object_init_3 obj _ _) entry_filter_new (meets_filter_new l vs f) ⟨hL, ?_⟩
  have F1 := Fh.push (itObj l 0)
  have N1 := N.push Fh (itObj l 0)
  have F3 := F1.push (filObj s.heap.objs.size f)
  have N3 := N1.push F1 (filObj s.heap.objs.size f)
  refine ⟨⟨_, Heap.get?_push_size _ rfl, rfl⟩, h _ _ _ F3 N3 (fun p hp => Heap.lt_size (N p hp).1) (by show (_ : Nat) < _; rw [Heap.size_push]; exact Nat.lt_succ_self _)⟩
theorem special_list_end {it l : Addr} {i : Nat} {items : Array Value} {Q : Option Value → Shared → Prop} (hh : A.handled = none)
    (hit : s.heap.IsListIter it l i) (hl : s.heap.IsList l items) (hx : items[i]? = none)
    (hE : ∀ h' e, Heap.ExtBut it s.heap h' → (∃ o, h'.get? e = some o ∧ o.cls = .type "StopIteration") → E (.ref e) { s with heap := h' }) :
    wpAny (model prog w) A (callSpecial? (.ref it) "__next__") Q E s := by
  obtain ⟨o, ho, hc, hd⟩ := id hit
  obtain ⟨ol, hol, _, nl, hdl⟩ := hl
  refine wpAny_callSpecial?_slot (name := Str.ofString "__next__") hit.typeIs slot_listiter_next (wpAny_call_entry slot_listiter_next hit.typeIs entry_listiter_next ?_ (args_listiter_next _))
  show wpAny _ _ (field (.ref it) 0 >>= _) _ _ s
  refine wpAny_bind (wpAny_field ho hd (x := .ref l) rfl ?_)
  show wpAny _ _ (if (Value.ref l == Value.none) = true then _ else _) _ _ s
  rw [if_neg (show ¬ ((Value.ref l == Value.none) = true) from Bool.false_ne_true)]
  show wpAny _ _ (field (.ref it) 1 >>= _) _ _ s
  refine wpAny_bind (wpAny_field ho hd (x := .int i 0) rfl ?_)
  show wpAny _ _ (seqItems? (.ref l) >>= _) _ _ s
  refine wpAny_bind (wpAny_seqItems hol hdl ?_)
  simp only [Int.toNat_natCast, hx]
  refine wpAny_bind (wpAny_rule (wpAny_bind (wpAny_setField ho hd (by simp) ?_)))
  show wpAny _ _ (newExc (.type "StopIteration") [] >>= _) _ _ _
  refine wpAny_bind ?_
  simp only [newExc, newTuple]
  refine wpAny_bind (wpAny_newObj_type ?_ (by size_fits))
  refine wpAny_bind (m := firstArgMember _ _) (wpAny_of_eq (a := Value.none) (by first | rfl | (simp only [firstArgMember]; rfl)) ?_)
  refine wpAny_newObj_type ?_ (by size_fits)
  simp only [raiseNew]
  refine wpAny_bind (wpAny_handled ?_)
  first | rw [show A.in1.handled = none from hh] | rw [hh]
  refine wpAny_bind (wpAny_pure (wpAny_throw ?_))
  exact hE _ _ (((Heap.SameBut.update ..).extBut.push _).push _) ⟨_, Heap.get?_push_size _ rfl, rfl⟩
theorem filter_next_end {I it l : Addr} {f : Value} {n : Nat} {Q : Option Value → Shared → Prop} (hh : A.handled = none)
    (Fh : Fr h₀ L s.heap m) (N : News h₀ L s.heap ((it, itObj l 0) :: (I, filObj it f) :: (l, seqL #[] n) :: news)) (hd : ∀ p ∈ (I, filObj it f) :: (l, seqL #[] n) :: news, p.1 ≠ it)
    (h : ∀ h', Fr h₀ L h' m → News h₀ L h' ((I, filObj it f) :: (l, seqL #[] n) :: news) → Q none { s with heap := h' }) :
    wpAny (model prog w) A (pyNext (.ref I)) Q E s := by
  have gI := (N _ (.tail _ (.head _))).1
  have gl := (N _ (.tail _ (.tail _ (.head _)))).1
  have git := (N _ (.head _)).1
  have hT : s.TypeIs (.ref I) "filter" := ⟨_, gI, rfl⟩
  have hit : s.heap.IsListIter it l 0 := ⟨_, git, rfl, rfl⟩
  have hL : s.heap.IsList l #[] := ⟨_, gl, rfl, n, rfl⟩
  have hLne := (N _ (.head _)).2
  unfold pyNext
  refine wpAny_bind (wpAny_attempt (wpAny_callSpecial?_slot (name := Str.ofString "__next__") hT slot_filter_next (wpAny_call_entry slot_filter_next hT entry_filter_next ?_ (args_filter_next_1 _))))
  show wpAny _ _ (field (.ref I) 0 >>= _) _ _ _
  refine wpAny_bind (wpAny_field gI rfl (x := f) rfl ?_)
  show wpAny _ _ (field (.ref I) 1 >>= _) _ _ _
  refine wpAny_bind (wpAny_field gI rfl (x := .ref it) rfl ?_)
  refine wpAny_bind (special_list_end (by exact hh) hit hL (by simp) fun h1 e a1 a2 => ?_)
  obtain ⟨oe, c1, c2⟩ := a2
  refine wpAny_bind (wpAny_isInstance (T := "StopIteration") (b := true) ⟨oe, c1, c2⟩ isSubtype_stop ?_)
  refine wpAny_pure (h h1 ⟨?_, ?_, Fh.above⟩ fun p hp => ?_)
  · exact Fh.ns.extBut a1 (Ne.symm hLne.1)
  · intro b ob e'
    exact a1 b ob (fun q => by rw [q, hLne.2] at e'; cases e') (Fh.keep b ob e')
  · have := N p (.tail _ hp)
    exact ⟨a1 _ _ (hd p hp) this.1, this.2⟩
theorem pyIter_filter {I it : Addr} {f : Value} {Q : Value → Shared → Prop} (hI : s.heap.get? I = some (filObj it f)) (h : Q (.ref I) s) : wpAny (model prog w) A (pyIter (.ref I)) Q E s := by
  have hT : s.TypeIs (.ref I) "filter" := ⟨_, hI, rfl⟩
  refine wpAny_pyIter_slot hT slot_filter_iter (wpAny_call_entry slot_filter_iter hT entry_filter_iter ?_ (args_filter_iter_1 _))
  show wpAny _ _ (ret (.ref I)) _ _ s
  exact wpAny_pure ⟨_, rfl, "filter", _, hT, slot_filter_next.lookup, h⟩
theorem list_filter_nil {I it l : Addr} {f : Value} {n : Nat} {Q : Value → Shared → Prop} (hh : A.handled = none)
    (Fh : Fr h₀ L s.heap m) (N : News h₀ L s.heap ((I, filObj it f) :: (it, itObj l 0) :: (l, seqL #[] n) :: news)) (h1 : it < I) (h3 : l < it) (h4 : ∀ p ∈ news, p.1 < it)
    (h : ∀ S h' tk' c, Fr h₀ L h' m → News h₀ L h' ((S, seqL #[] c) :: (l, seqL #[] n) :: news) → I < S → Q (.ref S) { s with heap := h', toks := tk' }) :
    wpAny (model prog w) A (call (.type "list") [.ref I]) Q E s := by
  refine callType_codes (Q₁ := fun obj s₁ => obj = .ref s.heap.objs.size ∧ s₁ = { s with heap := s.heap.push { cls := .type "list", data := .seq #[] } }) F.called_list (F.typeCall_list_1 _) F.entry_list_init
    (code_list_new _ ⟨rfl, rfl⟩) fun obj s₁ h₁ => ?_
  obtain ⟨rfl, rfl⟩ := h₁
  have hIlt : I < s.heap.objs.size := Heap.lt_size (N _ (.head _)).1
  have hS : (s.heap.push { cls := .type "list", data := .seq #[] }).get? s.heap.objs.size = some (seqL #[] 0) := Heap.get?_push_size _ rfl
  have F1 := Fh.push (seqL #[] 0)
  have N1 := N.push Fh (seqL #[] 0)
  refine ⟨⟨_, hS, rfl⟩, F.args_list_init_2 _ _, ?_⟩
  show wpAny _ _ (do let old ← Builtin.List.listItems (.ref s.heap.objs.size); Builtin.List.listUpdate (.ref s.heap.objs.size) (fun _ => #[]); letGo old.toList.reverse; Builtin.List.listExtendWith (.ref s.heap.objs.size) (.ref I) .none) _ _ _
  refine wpAny_bind ?_
  unfold Builtin.List.listItems
  refine wpAny_bind (wpAny_seqItems hS rfl (wpAny_pure ?_))
  show wpAny _ _ (updateSeq s.heap.objs.size (fun _ => #[]) >>= fun _ => letGo (#[] : Array Value).toList.reverse >>= fun _ => Builtin.List.listExtendWith (.ref s.heap.objs.size) (.ref I) .none) _ _ _
  refine wpAny_bind (wpAny_updateSeq hS rfl ?_)
  have hsb : Heap.SameBut s.heap.objs.size (s.heap.push (seqL #[] 0)) ((s.heap.push (seqL #[] 0)).update s.heap.objs.size (Obj.mapSeq (fun _ => (#[] : Array Value)))) := Heap.SameBut.update ..
  have hS₂ : ((s.heap.push (seqL #[] 0)).update s.heap.objs.size (Obj.mapSeq (fun _ => (#[] : Array Value)))).get? s.heap.objs.size = some (seqL #[] 0) := by
    rw [Heap.get?_update_self _ hS rfl]
    simp [Obj.mapSeq]
  have lt : ∀ p ∈ (I, filObj it f) :: (it, itObj l 0) :: (l, seqL #[] n) :: news, p.1 ≠ s.heap.objs.size := fun p hp => Nat.ne_of_lt (Heap.lt_size (N p hp).1)
  have N2 := News.upd1 N1 hsb hS₂ lt
  have F2 := Fr.upd1 F1 N1 hsb
  generalize hg : (s.heap.push (seqL #[] 0)).update s.heap.objs.size (Obj.mapSeq (fun _ => (#[] : Array Value))) = g at hS₂ N2 F2
  refine wpAny_bind (wpAny_letGo ?_)
  unfold Builtin.List.listExtendWith
  have gI : g.get? I = some (filObj it f) := (N2 _ (.tail _ (.head _))).1
  have hT : Shared.TypeIs { s with heap := g } (.ref I) "filter" := ⟨_, gI, rfl⟩
  refine wpAny_bind (wpAny_typeOf hT ?_)
  have q1 : Builtin.List.listSameRef (.ref s.heap.objs.size) (.ref I) = false := by
    simp only [Builtin.List.listSameRef, beq_eq_false_iff_ne]
    exact Ne.symm (Nat.ne_of_lt hIlt)
  have q2 : (Value.type "filter" == Value.type "list") = false := by decide
  have q3 : (Value.type "filter" == Value.type "tuple") = false := by decide
  simp only [q1, q2, q3, Bool.or_false, Bool.false_eq_true, if_false]
  refine wpAny_bind (pyIter_filter (it := it) (f := f) gI ?_)
  refine wpAny_bind (wpAny_holding ?_)
  unfold Builtin.List.listLengthHint
  refine wpAny_bind (wpAny_specialOf hT no_len_filter ?_)
  show wpAny _ _ (specialOf (Value.ref I) (Str.ofString "__length_hint__") >>= _) _ _ _
  refine wpAny_bind (wpAny_specialOf hT no_hint_filter ?_)
  refine wpAny_pure ?_
  show wpAny _ _ (rule "list.extend.makes-room" >>= fun _ => Builtin.List.listTouch (.ref s.heap.objs.size) >>= fun _ =>
    again (.builtin "list.extend.loop" ⟨[.ref s.heap.objs.size, .ref I, .none], []⟩)) _ _ _
  refine wpAny_bind (wpAny_rule ?_)
  refine wpAny_bind ?_
  show wpAny _ _ (updateSeq s.heap.objs.size (·.push .none) >>= fun _ => updateSeq s.heap.objs.size (·.pop)) _ _ _
  refine wpAny_bind (wpAny_updateSeq hS₂ rfl ?_)
  have hb3 : Heap.SameBut s.heap.objs.size g (g.update s.heap.objs.size (Obj.mapSeq (·.push Value.none))) := Heap.SameBut.update ..
  have hS₃ : (g.update s.heap.objs.size (Obj.mapSeq (·.push Value.none))).get? s.heap.objs.size = some (seqL #[.none] 1) := by
    rw [Heap.get?_update_self _ hS₂ rfl]
    simp [Obj.mapSeq]
  have N3 := News.upd1 N2 hb3 hS₃ lt
  have F3 := Fr.upd1 F2 N2 hb3
  refine wpAny_updateSeq hS₃ rfl ?_
  have hb4 : Heap.SameBut s.heap.objs.size (g.update s.heap.objs.size (Obj.mapSeq (·.push Value.none))) ((g.update s.heap.objs.size (Obj.mapSeq (·.push Value.none))).update s.heap.objs.size (Obj.mapSeq (·.pop))) := Heap.SameBut.update ..
  have hS₄ : ((g.update s.heap.objs.size (Obj.mapSeq (·.push Value.none))).update s.heap.objs.size (Obj.mapSeq (·.pop))).get? s.heap.objs.size = some (seqL #[] 2) := by
    rw [Heap.get?_update_self _ hS₃ rfl]
    simp [Obj.mapSeq]
  have N4 := News.upd1 N3 hb4 hS₄ lt
  have F4 := Fr.upd1 F3 N3 hb4
  have dl : ∀ p ∈ (I, filObj it f) :: (l, seqL #[] n) :: ((s.heap.objs.size, seqL #[] 2) :: news), p.1 ≠ it := fun p hp => by
    rcases List.mem_cons.mp hp with rfl | hp
    · exact Ne.symm (Nat.ne_of_lt h1)
    rcases List.mem_cons.mp hp with rfl | hp
    · exact Nat.ne_of_lt h3
    rcases List.mem_cons.mp hp with rfl | hp
    · exact Ne.symm (lt _ (.tail _ (.head _)))
    · exact Nat.ne_of_lt (h4 p hp)
  refine wpAny_pure ⟨plainId_quiet F.plain_extend_loop _, ?_⟩
  refine codeAny_builtin F.entry_extend_loop ?_
  rw [Around.under_plainId F.plain_extend_loop _]
  show wpAny _ _ (pyNext (.ref I) >>= _) _ _ _
  refine wpAny_bind (filter_next_end (news := (s.heap.objs.size, seqL #[] 2) :: news) (by exact hh) F4 (News.sub N4 fun p hp => by simp only [List.mem_cons] at hp ⊢; rcases hp with h | h | h | h | h <;> simp only [h, true_or, or_true]) dl fun h' F' N' => ?_)
  refine wpAny_pure ?_
  exact ⟨rfl, h _ h' _ 2 F' (News.sub N' fun p hp => by simp only [List.mem_cons] at hp ⊢; rcases hp with h | h | h <;> simp only [h, true_or, or_true]) hIlt⟩
end
theorem set_nil_N {prog : Program} {w : World} {A : Around} {E : Value → Shared → Prop} {s : Shared} {h₀ : Heap} {L : Addr} {m : Str → Option Value} {news : List (Addr × Obj)} {U : Addr} {n : Nat} {Q : Value → Shared → Prop} (hh : A.handled = none) (Fh : Fr h₀ L s.heap m) (N : News h₀ L s.heap news) (hl : (U, seqL #[] n) ∈ news)
    (h : ∀ S o h' tk es ep t, o = ({ cls := .type "set", data := .set es ep t } : Obj) → Fr h₀ L h' m → News h₀ L h' ((S, o) :: news) → (∀ p ∈ news, p.1 < S) → Q (.ref S) { s with heap := h', toks := tk }) :
    wpAny (model prog w) A (call (.type "set") [.ref U]) Q E s := by
  have hL : s.heap.IsList U #[] := ⟨_, (N _ hl).1, rfl, n, rfl⟩
  refine PySem.call_set_list (ns := []) hh hL .nil (by unfold scanBound; decide) fun h' tk hS hk => ?_
  obtain ⟨o, ho, hex, es, ep, t, hdat, _⟩ := hS.objOf
  obtain ⟨oL, _, _, hL', _⟩ := Fh.ns
  have hLlt : L < s.heap.objs.size := Heap.lt_size hL'
  obtain ⟨c, dc, dt, sl⟩ := o
  obtain ⟨e1, e2, e3⟩ := hex
  simp only at e1 e2 e3 hdat
  subst e1 e2 e3 hdat
  refine h _ _ h' tk es ep t rfl ⟨Fh.ns.at' fun o' e => hk L o' hLlt e, fun b o' e => hk b o' (Heap.lt_size (Fh.keep b o' e)) (Fh.keep b o' e), Fh.above⟩ (fun p hp => ?_) fun p hp => Heap.lt_size (N p hp).1
  rcases List.mem_cons.mp hp with rfl | hp
  · exact ⟨ho, Ne.symm (Nat.ne_of_lt hLlt), next_is_new Fh⟩
  · have := N p hp
    exact ⟨hk _ _ (Heap.lt_size this.1) this.1, this.2⟩
end Lw
end
example : True := by k_with_none; w_top off; trivial
section
open PySem PySem.W PyProof.Rows
namespace Lw
example : True := by
  k_with_none
  k_with "omega" => ((fail_if_success (fail_if_success (omega (config := {})))); first | lia | omega (config := {}))
  k_with "callWith ref" => ((k_here; k_dflt (refine' callWith_K ?kAw90 ?kBw90 ?_; (case kAw90 => k_asm); (case kBw90 => k_is); k_whole)))
  k_with "eval Name" => ((k_here; (fail_if_success (with_reducible show wpAny _ _ (eval (Expr.Name _ _) (compEnvC _ _ _ _)) _ _ _)); k_dflt (first | (refine' nameX_L ?Fw91 ?vw91 ?_ ?aw91 ?bw91; (case bw91 => rfl); (case Fw91 => k_asm); (case aw91 => rfl); (case vw91 => rfl); k_whole) | (refine' nameX_C ?Nw92 ?cw92 ?mw92 ?dw92 ?_ ?aw92 ?bw92; (case bw92 => rfl); (case aw92 => rfl); (case Nw92 => k_asm); (case cw92 => rfl); (case mw92 => k_mem); (case dw92 => k_asm); k_whole) | (refine' nameX_K ?Fw93 ?Xw93 ?Tw93 ?ew93 ?_ ?aw93 ?bw93; (case bw93 => rfl); (case Fw93 => k_asm); (case Xw93 => k_asm); (case Tw93 => k_asm); (case aw93 => rfl); (case ew93 => k_is); k_whole) | (refine' nameX_B ?Fw94 ?Xw94 ?Tw94 ?ew94 ?vw94 ?nw94 ?_ ?aw94 ?bw94; (case bw94 => rfl); (case Fw94 => k_asm); (case Xw94 => k_asm); (case Tw94 => k_asm); (case aw94 => rfl); (case ew94 => k_is); (case vw94 => boot_fast); (case nw94 => decide); k_whole))))
  k_with "execs cons" => ((k_here; refine execs_G ?_; intro G9w hG9w))
  k_with "Go" => (((try dsimp only); first | (refine go_next_S (by with_reducible assumption) ?_; intro tSw) | refine go_ret (by with_reducible assumption) ?_ | refine go_cont (by with_reducible assumption) ?_ | refine go_brk (by with_reducible assumption) ?_))
  k_with "k_ne" => ((with_reducible first | assumption | exact Ne.symm (by assumption) | exact Nat.ne_of_lt (by assumption) | exact Ne.symm (Nat.ne_of_lt (by assumption)) | fail "k_ne"))
  k_with "ktr_room" => (first | exact room_a (by with_reducible assumption) rfl | exact room_b (by with_reducible assumption) rfl | exact room_c (by with_reducible assumption) rfl | fail "room")
  k_with "ktr_units" => (first | exact room_a (by with_reducible assumption) rfl | exact room_b (by with_reducible assumption) rfl | exact room_c (by with_reducible assumption) rfl | fail "room")
  k_with "k_room" => (ktr_room)
  k_with "k_all" => (first | with_reducible assumption | exact all_gt (by assumption) (by ((try dsimp only); omega)))
  k_with "k_all" => (exact all_gtT (by assumption) (by ((try dsimp only); omega)))
  k_with "k_mem" => (assumption)
  trivial
section
variable {prog : Program} {w : World} {A : Around} {E : Value → Shared → Prop} {s : Shared} {h₀ : Heap} {L : Addr} {m : Str → Option Value} {news : List (Addr × Obj)}
theorem contains_N {a : Addr} {Q : Value → Shared → Prop} {es : Array (Int × Value)} {ep : Nat} {t : SetTable} (Fh : Fr h₀ L s.heap m) (N : News h₀ L s.heap news) (hm : (a, ({ cls := .type "set", data := .set es ep t } : Obj)) ∈ news)
    (h : ∀ b h' tk, Fr h₀ L h' m → News h₀ L h' ((b, bmObj a) :: news) → (∀ p ∈ news, p.1 < b) → Q (.ref b) { s with heap := h', toks := tk }) : wpAny (model prog w) A (getAttr (.ref a) "__contains__" true) Q E s :=
  getAttr_set_contains (N _ hm).1 rfl rfl rfl rfl fun tk => h _ _ tk (Fh.push _) (N.push Fh _) fun p hp => Heap.lt_size (N p hp).1
theorem list_filter_at {I it l : Addr} {f : Value} {n : Nat} {Q : Value → Shared → Prop} (hh : A.handled = none)
    (Fh : Fr h₀ L s.heap m) (N : News h₀ L s.heap ((I, filObj it f) :: (it, itObj l 0) :: news)) (hm : (l, seqL #[] n) ∈ news) (h1 : it < I) (h4 : ∀ p ∈ news, p.1 < it)
    (h : ∀ S h' tk' c, Fr h₀ L h' m → News h₀ L h' ((S, seqL #[] c) :: news) → (∀ p ∈ news, p.1 < S) → Q (.ref S) { s with heap := h', toks := tk' }) :
    wpAny (model prog w) A (call (.type "list") [.ref I]) Q E s :=
  list_filter_nil hh Fh (News.sub N fun p hp => by
    rcases List.mem_cons.mp hp with rfl | hp
    · exact .head _
    rcases List.mem_cons.mp hp with rfl | hp
    · exact .tail _ (.head _)
    rcases List.mem_cons.mp hp with rfl | hp
    · exact .tail _ (.tail _ hm)
    · exact .tail _ (.tail _ hp)) h1 (h4 _ hm) h4 fun S h' tk' c F' N' l' => h S h' tk' c F' (News.sub N' fun p hp => by
    rcases List.mem_cons.mp hp with rfl | hp
    · exact .head _
    · exact .tail _ (.tail _ hp)) fun p hp => Nat.lt_trans (Nat.lt_trans (h4 p hp) h1) l'
theorem add_N {l b : Addr} {vs ws : List Value} {n n' : Nat} {Q : Value → Shared → Prop} (Fh : Fr h₀ L s.heap m) (N : News h₀ L s.heap news) (hl : (l, seqL vs.toArray n) ∈ news) (hb : (b, seqL ws.toArray n') ∈ news) (hsz : vs.length + ws.length ≤ 1000)
    (h : ∀ S h', Fr h₀ L h' m → News h₀ L h' ((S, seqL (vs ++ ws).toArray 0) :: news) → (∀ p ∈ news, p.1 < S) → Q (.ref S) { s with heap := h' }) : wpAny (model prog w) A (binaryOp .Add (.ref l) (.ref b)) Q E s :=
  add_lists Fh N ⟨_, (N _ hl).1, rfl, n, rfl⟩ ⟨_, (N _ hb).1, rfl, n', rfl⟩ (fun h' F' N' => h _ h' F' N' fun p hp => Heap.lt_size (N p hp).1) (by unfold sizeLine; omega)
end
noncomputable abbrev nw7 {g h : Heap} {L : Addr} {p0 p1 p2 p3 p4 p5 p6 p7 : Addr × Obj} {l : List (Addr × Obj)} (_ : News g L h (p0 :: p1 :: p2 :: p3 :: p4 :: p5 :: p6 :: p7 :: l)) : Addr := p6.1
noncomputable abbrev nw8 {g h : Heap} {L : Addr} {p0 p1 p2 p3 p4 p5 p6 p7 : Addr × Obj} {l : List (Addr × Obj)} (_ : News g L h (p0 :: p1 :: p2 :: p3 :: p4 :: p5 :: p6 :: p7 :: l)) : Addr := p7.1
theorem mrg_fin {P : Params} {h₀ h : Heap} {L x d U RL : Addr} {news : List (Addr × Obj)} {rs1 rs2 : List Addr} {t1 t2 t3 t4 : Tok} {c cu : Nat} {a1 a2 a3 a4 : Addr × Obj} {G : Prop} (N : News h₀ L h ((RL, ({ cls := .type "list", data := .seq (rs1.map Value.ref ++ rs2.map Value.ref).toArray c } : Obj)) :: (U, listOf #[] cu) :: a1 :: a2 :: a3 :: a4 :: (x, instObj 52 d) :: (d, recD P U RL t1 t2 t3 t4) :: news))
    (k : ∀ nw, RecOut P news ((rs1 ++ rs2).map Value.ref) (.ref x) nw → News h₀ L h nw → G) (h1 : ∀ p ∈ news, p.1 ≠ x) (h2 : ∀ p ∈ news, p.1 ≠ d) (h3 : ∀ p ∈ news, p.1 ≠ U) (h4 : ∀ p ∈ news, p.1 ≠ RL) (h5 : RL ≠ x) (h6 : RL ≠ d) (h7 : RL ≠ U) : G :=
  k _ ⟨x, d, U, RL, t1, t2, t3, t4, c, cu, rfl, rfl, h1, h2, h3, h4, h5, h6, h7⟩ (KStt.news_of N fun p hp => by
    rw [List.map_append] at hp
    simp only [List.mem_cons] at hp ⊢
    grind)
namespace Me
noncomputable def S0 (prog : Program) (w : World) (news : List (Addr × Obj)) (e1 e2 d1 d2 U1 U2 R1 R2 : Addr) (t1 t2 t3 t4 t5 t6 t7 t8 : Tok) (c1 c2 c3 c4 : Nat) (rs1 rs2 : List Addr) (p : Program) (loose : List Str) (mean : ExcName → Option Value) (mg : Str → Option Value) (mb : Str → Option Value) (dp : Nat) (un : Nat) (gd : Option (List Code)) (cn : Str) (cnm : List (Str × NameKind)) (cig : Bool) (cic : Bool) (cmo : List (Str × Const)) (a : Addr) (ccd : Value) (cl : List (Str × Addr)) (outer : List Env) (A₀ : Around) (base : Heap) (h₀ : Heap) (L : Addr) (m : Str → Option Value) (s : Shared) (Q : Value → Shared → Prop) (E : Value → Shared → Prop) : Prop :=
  rs1.length ≤ 10 → rs2.length ≤ 10 → (U1, listOf #[] c1) ∈ news → (U2, listOf #[] c2) ∈ news → (R1, listOf (rs1.map Value.ref).toArray c3) ∈ news → (R2, listOf (rs2.map Value.ref).toArray c4) ∈ news → (e1, instObj 52 d1) ∈ news → (e2, instObj 52 d2) ∈ news → (d1, recD w.params U1 R1 t1 t2 t3 t4) ∈ news → (d2, recD w.params U2 R2 t5 t6 t7 t8) ∈ news → 
  ComesNv prog w 10 200 82 news [.ref e1, .ref e2] (RecOut w.params news ((rs1 ++ rs2).map Value.ref)) p loose mean mg mb dp un gd cn ⟨.function, cnm, cig, cic, cmo⟩ a ccd cl outer A₀ base h₀ L m s Q E
noncomputable def P0 (x : Program × World × (List (Addr × Obj)) × Addr × Addr × Addr × Addr × Addr × Addr × Addr × Addr × Tok × Tok × Tok × Tok × Tok × Tok × Tok × Tok × Nat × Nat × Nat × Nat × List Addr × List Addr × Program × List Str × (ExcName → Option Value) × (Str → Option Value) × (Str → Option Value) × Nat × Nat × Option (List Code) × Str × (List (Str × NameKind)) × Bool × Bool × (List (Str × Const)) × Addr × Value × (List (Str × Addr)) × List Env × Around × Heap × Heap × Addr × (Str → Option Value) × Shared × (Value → Shared → Prop) × (Value → Shared → Prop)) : Prop := S0 x.1 x.2.1 x.2.2.1 x.2.2.2.1 x.2.2.2.2.1 x.2.2.2.2.2.1 x.2.2.2.2.2.2.1 x.2.2.2.2.2.2.2.1 x.2.2.2.2.2.2.2.2.1 x.2.2.2.2.2.2.2.2.2.1 x.2.2.2.2.2.2.2.2.2.2.1 x.2.2.2.2.2.2.2.2.2.2.2.1 x.2.2.2.2.2.2.2.2.2.2.2.2.1 x.2.2.2.2.2.2.2.2.2.2.2.2.2.1 x.2.2.2.2.2.2.2.2.2.2.2.2.2.2.1 x.2.2.2.2.2.2.2.2.2.2.2.2.2.2.2.1 x.2.2.2.2.2.2.2.2.2.2.2.2.2.2.2.2.1 x.2.2.2.2.2.2.2.2.2.2.2.2.2.2.2.2.2.1 x.2.2.2.2.2.2.2.2.2.2.2.2.2.2.2.2.2.2.1 x.2.2.2.2.2.2.2.2.2.2.2.2.2.2.2.2.2.2.2.1 x.2.2.2.2.2.2.2.2.2.2.2.2.2.2.2.2.2.2.2.2.1 x.2.2.2.2.2.2.2.2.2.2.2.2.2.2.2.2.2.2.2.2.2.1 x.2.2.2.2.2.2.2.2.2.2.2.2.2.2.2.2.2.2.2.2.2.2.1 x.2.2.2.2.2.2.2.2.2.2.2.2.2.2.2.2.2.2.2.2.2.2.2.1 x.2.2.2.2.2.2.2.2.2.2.2.2.2.2.2.2.2.2.2.2.2.2.2.2.1 x.2.2.2.2.2.2.2.2.2.2.2.2.2.2.2.2.2.2.2.2.2.2.2.2.2.1 x.2.2.2.2.2.2.2.2.2.2.2.2.2.2.2.2.2.2.2.2.2.2.2.2.2.2.1 x.2.2.2.2.2.2.2.2.2.2.2.2.2.2.2.2.2.2.2.2.2.2.2.2.2.2.2.1 x.2.2.2.2.2.2.2.2.2.2.2.2.2.2.2.2.2.2.2.2.2.2.2.2.2.2.2.2.1 x.2.2.2.2.2.2.2.2.2.2.2.2.2.2.2.2.2.2.2.2.2.2.2.2.2.2.2.2.2.1 x.2.2.2.2.2.2.2.2.2.2.2.2.2.2.2.2.2.2.2.2.2.2.2.2.2.2.2.2.2.2.1 x.2.2.2.2.2.2.2.2.2.2.2.2.2.2.2.2.2.2.2.2.2.2.2.2.2.2.2.2.2.2.2.1 x.2.2.2.2.2.2.2.2.2.2.2.2.2.2.2.2.2.2.2.2.2.2.2.2.2.2.2.2.2.2.2.2.1 x.2.2.2.2.2.2.2.2.2.2.2.2.2.2.2.2.2.2.2.2.2.2.2.2.2.2.2.2.2.2.2.2.2.1 x.2.2.2.2.2.2.2.2.2.2.2.2.2.2.2.2.2.2.2.2.2.2.2.2.2.2.2.2.2.2.2.2.2.2.1 x.2.2.2.2.2.2.2.2.2.2.2.2.2.2.2.2.2.2.2.2.2.2.2.2.2.2.2.2.2.2.2.2.2.2.2.1 x.2.2.2.2.2.2.2.2.2.2.2.2.2.2.2.2.2.2.2.2.2.2.2.2.2.2.2.2.2.2.2.2.2.2.2.2.1 x.2.2.2.2.2.2.2.2.2.2.2.2.2.2.2.2.2.2.2.2.2.2.2.2.2.2.2.2.2.2.2.2.2.2.2.2.2.1 x.2.2.2.2.2.2.2.2.2.2.2.2.2.2.2.2.2.2.2.2.2.2.2.2.2.2.2.2.2.2.2.2.2.2.2.2.2.2.1 x.2.2.2.2.2.2.2.2.2.2.2.2.2.2.2.2.2.2.2.2.2.2.2.2.2.2.2.2.2.2.2.2.2.2.2.2.2.2.2.1 x.2.2.2.2.2.2.2.2.2.2.2.2.2.2.2.2.2.2.2.2.2.2.2.2.2.2.2.2.2.2.2.2.2.2.2.2.2.2.2.2.1 x.2.2.2.2.2.2.2.2.2.2.2.2.2.2.2.2.2.2.2.2.2.2.2.2.2.2.2.2.2.2.2.2.2.2.2.2.2.2.2.2.2.1 x.2.2.2.2.2.2.2.2.2.2.2.2.2.2.2.2.2.2.2.2.2.2.2.2.2.2.2.2.2.2.2.2.2.2.2.2.2.2.2.2.2.2.1 x.2.2.2.2.2.2.2.2.2.2.2.2.2.2.2.2.2.2.2.2.2.2.2.2.2.2.2.2.2.2.2.2.2.2.2.2.2.2.2.2.2.2.2.1 x.2.2.2.2.2.2.2.2.2.2.2.2.2.2.2.2.2.2.2.2.2.2.2.2.2.2.2.2.2.2.2.2.2.2.2.2.2.2.2.2.2.2.2.2.1 x.2.2.2.2.2.2.2.2.2.2.2.2.2.2.2.2.2.2.2.2.2.2.2.2.2.2.2.2.2.2.2.2.2.2.2.2.2.2.2.2.2.2.2.2.2.1 x.2.2.2.2.2.2.2.2.2.2.2.2.2.2.2.2.2.2.2.2.2.2.2.2.2.2.2.2.2.2.2.2.2.2.2.2.2.2.2.2.2.2.2.2.2.2.1 x.2.2.2.2.2.2.2.2.2.2.2.2.2.2.2.2.2.2.2.2.2.2.2.2.2.2.2.2.2.2.2.2.2.2.2.2.2.2.2.2.2.2.2.2.2.2.2.1 x.2.2.2.2.2.2.2.2.2.2.2.2.2.2.2.2.2.2.2.2.2.2.2.2.2.2.2.2.2.2.2.2.2.2.2.2.2.2.2.2.2.2.2.2.2.2.2.2.1 x.2.2.2.2.2.2.2.2.2.2.2.2.2.2.2.2.2.2.2.2.2.2.2.2.2.2.2.2.2.2.2.2.2.2.2.2.2.2.2.2.2.2.2.2.2.2.2.2.2
noncomputable def k0 : Program × World × (List (Addr × Obj)) × Addr × Addr × Addr × Addr × Addr × Addr × Addr × Addr × Tok × Tok × Tok × Tok × Tok × Tok × Tok × Tok × Nat × Nat × Nat × Nat × List Addr × List Addr × Program × List Str × (ExcName → Option Value) × (Str → Option Value) × (Str → Option Value) × Nat × Nat × Option (List Code) × Str × (List (Str × NameKind)) × Bool × Bool × (List (Str × Const)) × Addr × Value × (List (Str × Addr)) × List Env × Around × Heap × Heap × Addr × (Str → Option Value) × Shared × (Value → Shared → Prop) × (Value → Shared → Prop) := henk (qv, aWorld 1, [], 0, 0, 0, 0, 0, 0, 0, 0, default, default, default, default, default, default, default, default, 0, 0, 0, 0, [], [], qv, [], fun _ => none, fun _ => none, fun _ => none, 0, 0, none, default, [], false, false, [], 0, .none, [], [], hen_a, default, default, 0, fun _ => none, hen_s, fun _ _ => True, fun _ _ => True) P0
@[irreducible] noncomputable def prog : Program := k0.1
@[irreducible] noncomputable def w : World := k0.2.1
@[irreducible] noncomputable def news : List (Addr × Obj) := k0.2.2.1
@[irreducible] noncomputable def e1 : Addr := k0.2.2.2.1
@[irreducible] noncomputable def e2 : Addr := k0.2.2.2.2.1
@[irreducible] noncomputable def d1 : Addr := k0.2.2.2.2.2.1
@[irreducible] noncomputable def d2 : Addr := k0.2.2.2.2.2.2.1
@[irreducible] noncomputable def U1 : Addr := k0.2.2.2.2.2.2.2.1
@[irreducible] noncomputable def U2 : Addr := k0.2.2.2.2.2.2.2.2.1
@[irreducible] noncomputable def R1 : Addr := k0.2.2.2.2.2.2.2.2.2.1
@[irreducible] noncomputable def R2 : Addr := k0.2.2.2.2.2.2.2.2.2.2.1
@[irreducible] noncomputable def t1 : Tok := k0.2.2.2.2.2.2.2.2.2.2.2.1
@[irreducible] noncomputable def t2 : Tok := k0.2.2.2.2.2.2.2.2.2.2.2.2.1
@[irreducible] noncomputable def t3 : Tok := k0.2.2.2.2.2.2.2.2.2.2.2.2.2.1
@[irreducible] noncomputable def t4 : Tok := k0.2.2.2.2.2.2.2.2.2.2.2.2.2.2.1
@[irreducible] noncomputable def t5 : Tok := k0.2.2.2.2.2.2.2.2.2.2.2.2.2.2.2.1
@[irreducible] noncomputable def t6 : Tok := k0.2.2.2.2.2.2.2.2.2.2.2.2.2.2.2.2.1
@[irreducible] noncomputable def t7 : Tok := k0.2.2.2.2.2.2.2.2.2.2.2.2.2.2.2.2.2.1
@[irreducible] noncomputable def t8 : Tok := k0.2.2.2.2.2.2.2.2.2.2.2.2.2.2.2.2.2.2.1
@[irreducible] noncomputable def c1 : Nat := k0.2.2.2.2.2.2.2.2.2.2.2.2.2.2.2.2.2.2.2.1
@[irreducible] noncomputable def c2 : Nat := k0.2.2.2.2.2.2.2.2.2.2.2.2.2.2.2.2.2.2.2.2.1
@[irreducible] noncomputable def c3 : Nat := k0.2.2.2.2.2.2.2.2.2.2.2.2.2.2.2.2.2.2.2.2.2.1
@[irreducible] noncomputable def c4 : Nat := k0.2.2.2.2.2.2.2.2.2.2.2.2.2.2.2.2.2.2.2.2.2.2.1
@[irreducible] noncomputable def rs1 : List Addr := k0.2.2.2.2.2.2.2.2.2.2.2.2.2.2.2.2.2.2.2.2.2.2.2.1
@[irreducible] noncomputable def rs2 : List Addr := k0.2.2.2.2.2.2.2.2.2.2.2.2.2.2.2.2.2.2.2.2.2.2.2.2.1
@[irreducible] noncomputable def p : Program := k0.2.2.2.2.2.2.2.2.2.2.2.2.2.2.2.2.2.2.2.2.2.2.2.2.2.1
@[irreducible] noncomputable def loose : List Str := k0.2.2.2.2.2.2.2.2.2.2.2.2.2.2.2.2.2.2.2.2.2.2.2.2.2.2.1
@[irreducible] noncomputable def mean : ExcName → Option Value := k0.2.2.2.2.2.2.2.2.2.2.2.2.2.2.2.2.2.2.2.2.2.2.2.2.2.2.2.1
@[irreducible] noncomputable def mg : Str → Option Value := k0.2.2.2.2.2.2.2.2.2.2.2.2.2.2.2.2.2.2.2.2.2.2.2.2.2.2.2.2.1
@[irreducible] noncomputable def mb : Str → Option Value := k0.2.2.2.2.2.2.2.2.2.2.2.2.2.2.2.2.2.2.2.2.2.2.2.2.2.2.2.2.2.1
@[irreducible] noncomputable def dp : Nat := k0.2.2.2.2.2.2.2.2.2.2.2.2.2.2.2.2.2.2.2.2.2.2.2.2.2.2.2.2.2.2.1
@[irreducible] noncomputable def un : Nat := k0.2.2.2.2.2.2.2.2.2.2.2.2.2.2.2.2.2.2.2.2.2.2.2.2.2.2.2.2.2.2.2.1
@[irreducible] noncomputable def gd : Option (List Code) := k0.2.2.2.2.2.2.2.2.2.2.2.2.2.2.2.2.2.2.2.2.2.2.2.2.2.2.2.2.2.2.2.2.1
@[irreducible] noncomputable def cn : Str := k0.2.2.2.2.2.2.2.2.2.2.2.2.2.2.2.2.2.2.2.2.2.2.2.2.2.2.2.2.2.2.2.2.2.1
@[irreducible] noncomputable def cnm : List (Str × NameKind) := k0.2.2.2.2.2.2.2.2.2.2.2.2.2.2.2.2.2.2.2.2.2.2.2.2.2.2.2.2.2.2.2.2.2.2.1
@[irreducible] noncomputable def cig : Bool := k0.2.2.2.2.2.2.2.2.2.2.2.2.2.2.2.2.2.2.2.2.2.2.2.2.2.2.2.2.2.2.2.2.2.2.2.1
@[irreducible] noncomputable def cic : Bool := k0.2.2.2.2.2.2.2.2.2.2.2.2.2.2.2.2.2.2.2.2.2.2.2.2.2.2.2.2.2.2.2.2.2.2.2.2.1
@[irreducible] noncomputable def cmo : List (Str × Const) := k0.2.2.2.2.2.2.2.2.2.2.2.2.2.2.2.2.2.2.2.2.2.2.2.2.2.2.2.2.2.2.2.2.2.2.2.2.2.1
@[irreducible] noncomputable def a : Addr := k0.2.2.2.2.2.2.2.2.2.2.2.2.2.2.2.2.2.2.2.2.2.2.2.2.2.2.2.2.2.2.2.2.2.2.2.2.2.2.1
@[irreducible] noncomputable def ccd : Value := k0.2.2.2.2.2.2.2.2.2.2.2.2.2.2.2.2.2.2.2.2.2.2.2.2.2.2.2.2.2.2.2.2.2.2.2.2.2.2.2.1
@[irreducible] noncomputable def cl : List (Str × Addr) := k0.2.2.2.2.2.2.2.2.2.2.2.2.2.2.2.2.2.2.2.2.2.2.2.2.2.2.2.2.2.2.2.2.2.2.2.2.2.2.2.2.1
@[irreducible] noncomputable def outer : List Env := k0.2.2.2.2.2.2.2.2.2.2.2.2.2.2.2.2.2.2.2.2.2.2.2.2.2.2.2.2.2.2.2.2.2.2.2.2.2.2.2.2.2.1
@[irreducible] noncomputable def A₀ : Around := k0.2.2.2.2.2.2.2.2.2.2.2.2.2.2.2.2.2.2.2.2.2.2.2.2.2.2.2.2.2.2.2.2.2.2.2.2.2.2.2.2.2.2.1
@[irreducible] noncomputable def base : Heap := k0.2.2.2.2.2.2.2.2.2.2.2.2.2.2.2.2.2.2.2.2.2.2.2.2.2.2.2.2.2.2.2.2.2.2.2.2.2.2.2.2.2.2.2.1
@[irreducible] noncomputable def h₀ : Heap := k0.2.2.2.2.2.2.2.2.2.2.2.2.2.2.2.2.2.2.2.2.2.2.2.2.2.2.2.2.2.2.2.2.2.2.2.2.2.2.2.2.2.2.2.2.1
@[irreducible] noncomputable def L : Addr := k0.2.2.2.2.2.2.2.2.2.2.2.2.2.2.2.2.2.2.2.2.2.2.2.2.2.2.2.2.2.2.2.2.2.2.2.2.2.2.2.2.2.2.2.2.2.1
@[irreducible] noncomputable def m : Str → Option Value := k0.2.2.2.2.2.2.2.2.2.2.2.2.2.2.2.2.2.2.2.2.2.2.2.2.2.2.2.2.2.2.2.2.2.2.2.2.2.2.2.2.2.2.2.2.2.2.1
@[irreducible] noncomputable def s : Shared := k0.2.2.2.2.2.2.2.2.2.2.2.2.2.2.2.2.2.2.2.2.2.2.2.2.2.2.2.2.2.2.2.2.2.2.2.2.2.2.2.2.2.2.2.2.2.2.2.1
@[irreducible] noncomputable def Q : Value → Shared → Prop := k0.2.2.2.2.2.2.2.2.2.2.2.2.2.2.2.2.2.2.2.2.2.2.2.2.2.2.2.2.2.2.2.2.2.2.2.2.2.2.2.2.2.2.2.2.2.2.2.2.1
@[irreducible] noncomputable def E : Value → Shared → Prop := k0.2.2.2.2.2.2.2.2.2.2.2.2.2.2.2.2.2.2.2.2.2.2.2.2.2.2.2.2.2.2.2.2.2.2.2.2.2.2.2.2.2.2.2.2.2.2.2.2.2
theorem main : S0 prog w news e1 e2 d1 d2 U1 U2 R1 R2 t1 t2 t3 t4 t5 t6 t7 t8 c1 c2 c3 c4 rs1 rs2 p loose mean mg mb dp un gd cn cnm cig cic cmo a ccd cl outer A₀ base h₀ L m s Q E := by
  unfold S0 ComesNv
  intro z1 z2 m1 m2 m3 m4 m5 m6 m7 m8 B F X N T C1 C2 hk hd hu hret
  unfold recD at m7 m8
  refine wpAny_call ?_
  k_enter
  (k_with "call type:set" => ((with_reducible show wpAny _ _ (call (Value.type "set") [Value.ref _]) _ _ _); (k_here; k_dflt (refine set_nil_N (by rfl) (by k_asm) (by k_asm) (by k_mem) ?_); intro S' o' h' tk' es' ep' tt' ho' F' N' l1; subst ho'; (try k_lt l1))))
  (k_with "getAttr ref" => ((with_reducible show wpAny _ _ (getAttr _ (Str.ofString "__contains__") _) _ _ _); k_here; k_dflt (refine contains_N (by k_asm) (by k_asm) (by k_mem) ?_); intro b' h' tk' F' N' l1; (try k_lt l1)))
  (k_with "call type:filter" => (k_here; k_dflt (refine call_filter_N (by k_asm) (by k_asm) (by k_mem) ?_); intro I' it' h' F' N' l1 l2))
  (k_with "call type:list" => ((with_reducible show wpAny _ _ (call (Value.type "list") [Value.ref _]) _ _ _); (k_here; k_dflt (refine list_filter_at (by rfl) (by k_asm) (by k_asm) (by k_mem) (by assumption) (by assumption) ?_); intro S' h' tk' c' F' N' l1; (try k_lt l1))))
  (k_with "binaryOp Add ref" => (k_here; k_dflt (refine add_N (vs := rs1.map Value.ref) (ws := rs2.map Value.ref) (by k_asm) (by k_asm) (by k_mem) (by k_mem) (by (rw [List.length_map, List.length_map]; omega)) ?_); intro S' h' F' N' l1; (try k_lt l1)))
  k_steps
  (with_reducible rename News _ _ _ _ => N7)
  have l7 := (by assumption : @LT.lt Nat instLTNat _ _ ∧ @LT.lt Nat instLTNat _ _ ∧ @LT.lt Nat instLTNat _ _ ∧ @LT.lt Nat instLTNat _ _ ∧ @LT.lt Nat instLTNat _ _ ∧ @LT.lt Nat instLTNat _ _ ∧ @LT.lt Nat instLTNat _ _ ∧ AllLt _ news)
  have l6 := (by assumption : @LT.lt Nat instLTNat _ _ ∧ @LT.lt Nat instLTNat _ _ ∧ @LT.lt Nat instLTNat _ _ ∧ @LT.lt Nat instLTNat _ _ ∧ @LT.lt Nat instLTNat _ _ ∧ @LT.lt Nat instLTNat _ _ ∧ AllLt _ news)
  have l1 := (by assumption : ∀ (p : Addr × Obj), p ∈ news → @LT.lt Nat instLTNat p.1 _)
  have l0 := (by assumption : @LT.lt Nat instLTNat (nw8 N7) (nw7 N7))
  dsimp only [nw7, nw8] at l0
  refine mrg_fin (news := news) N7 (fun nw P9 N9 => hret _ _ _ _ P9 (by k_asm) N9) (fun p hp => Nat.ne_of_lt (Nat.lt_trans (l1 p hp) l0)) (fun p hp => Nat.ne_of_lt (l1 p hp)) ?_ ?_ ?_ ?_ ?_
  · exact all_gtT l6.2.2.2.2.2.2 (Nat.le_refl _)
  · exact all_gtT l7.2.2.2.2.2.2.2 (Nat.le_refl _)
  · exact Ne.symm (Nat.ne_of_lt l7.2.2.2.2.2.1)
  · exact Ne.symm (Nat.ne_of_lt l7.2.2.2.2.2.2.1)
  · exact Ne.symm (Nat.ne_of_lt l7.1)
end Me
theorem merge_call (prog : Program) (w : World) (news : List (Addr × Obj)) (e1 e2 d1 d2 U1 U2 R1 R2 : Addr) (t1 t2 t3 t4 t5 t6 t7 t8 : Tok) (c1 c2 c3 c4 : Nat) (rs1 rs2 : List Addr) (z1 : rs1.length ≤ 10) (z2 : rs2.length ≤ 10) (m1 : (U1, listOf #[] c1) ∈ news) (m2 : (U2, listOf #[] c2) ∈ news) (m3 : (R1, listOf (rs1.map Value.ref).toArray c3) ∈ news)
    (m4 : (R2, listOf (rs2.map Value.ref).toArray c4) ∈ news) (m5 : (e1, instObj 52 d1) ∈ news) (m6 : (e2, instObj 52 d2) ∈ news) (m7 : (d1, recD w.params U1 R1 t1 t2 t3 t4) ∈ news) (m8 : (d2, recD w.params U2 R2 t5 t6 t7 t8) ∈ news) :
    ComesN prog w 10 200 82 news [.ref e1, .ref e2] (RecOut w.params news ((rs1 ++ rs2).map Value.ref)) := by
  intro p loose mean mg mb dp un gd cn cs a ccd cl outer A₀ base h₀ L m s Q E B F X N T C1 C2 hk
  obtain ⟨ck, cnm, cig, cic, cmo⟩ := cs
  cases hk
  exact henk_all (P := Me.P0) (by with_unfolding_all exact Me.main) (prog, w, news, e1, e2, d1, d2, U1, U2, R1, R2, t1, t2, t3, t4, t5, t6, t7, t8, c1, c2, c3, c4, rs1, rs2, p, loose, mean, mg, mb, dp, un, gd, cn, cnm, cig, cic, cmo, a, ccd, cl, outer, A₀, base, h₀, L, m, s, Q, E) z1 z2 m1 m2 m3 m4 m5 m6 m7 m8 B F X N T C1 C2 rfl
end Lw
end
example : True := by k_with_none; w_top off; trivial
section
open PySem PySem.W PyProof.Rows
namespace Lw
example : True := by
  k_with_none
  k_with "omega" => ((fail_if_success (fail_if_success (omega (config := {})))); first | lia | omega (config := {}))
  k_with "callWith ref" => ((k_here; k_dflt (refine' callWith_K ?kAw90 ?kBw90 ?_; (case kAw90 => k_asm); (case kBw90 => k_is); k_whole)))
  k_with "eval Name" => ((k_here; (fail_if_success (with_reducible show wpAny _ _ (eval (Expr.Name _ _) (compEnvC _ _ _ _)) _ _ _)); k_dflt (first | (refine' nameX_L ?Fw91 ?vw91 ?_ ?aw91 ?bw91; (case bw91 => rfl); (case Fw91 => k_asm); (case aw91 => rfl); (case vw91 => rfl); k_whole) | (refine' nameX_C ?Nw92 ?cw92 ?mw92 ?dw92 ?_ ?aw92 ?bw92; (case bw92 => rfl); (case aw92 => rfl); (case Nw92 => k_asm); (case cw92 => rfl); (case mw92 => k_mem); (case dw92 => k_asm); k_whole) | (refine' nameX_K ?Fw93 ?Xw93 ?Tw93 ?ew93 ?_ ?aw93 ?bw93; (case bw93 => rfl); (case Fw93 => k_asm); (case Xw93 => k_asm); (case Tw93 => k_asm); (case aw93 => rfl); (case ew93 => k_is); k_whole) | (refine' nameX_B ?Fw94 ?Xw94 ?Tw94 ?ew94 ?vw94 ?nw94 ?_ ?aw94 ?bw94; (case bw94 => rfl); (case Fw94 => k_asm); (case Xw94 => k_asm); (case Tw94 => k_asm); (case aw94 => rfl); (case ew94 => k_is); (case vw94 => boot_fast); (case nw94 => decide); k_whole))))
  k_with "execs cons" => ((k_here; refine execs_G ?_; intro G9w hG9w))
  k_with "Go" => (((try dsimp only); first | (refine go_next_S (by with_reducible assumption) ?_; intro tSw) | refine go_ret (by with_reducible assumption) ?_ | refine go_cont (by with_reducible assumption) ?_ | refine go_brk (by with_reducible assumption) ?_))
  k_with "k_ne" => ((with_reducible first | assumption | exact Ne.symm (by assumption) | exact Nat.ne_of_lt (by assumption) | exact Ne.symm (Nat.ne_of_lt (by assumption)) | fail "k_ne"))
  k_with "ktr_room" => (first | exact room_a (by with_reducible assumption) rfl | exact room_b (by with_reducible assumption) rfl | exact room_c (by with_reducible assumption) rfl | fail "room")
  k_with "ktr_units" => (first | exact room_a (by with_reducible assumption) rfl | exact room_b (by with_reducible assumption) rfl | exact room_c (by with_reducible assumption) rfl | fail "room")
  k_with "k_room" => (ktr_room)
  k_with "k_all" => (first | with_reducible assumption | exact all_gt (by assumption) (by ((try dsimp only); omega)))
  k_with "k_all" => (exact all_gtT (by assumption) (by ((try dsimp only); omega)))
  k_with "k_mem" => (assumption)
  k_with "exec For Name Name cons nil" => ((k_here; k_dflt (refine For_S ?_)))
  trivial
theorem RuleIn.mono {prog : Program} {w : World} {nt : Addr} {news news' : List (Addr × Obj)} {name : Str} {q : RI} (h : RuleIn prog w nt news name q) (hs : ∀ p ∈ news, p ∈ news') : RuleIn prog w nt news' name q := by
  obtain ⟨d, U, RL, f, t1, t2, t3, t4, t5, t6, fs, rt, tob, DT, r1, r2, r3, r4, r5, r6, r7, r8, r9, r10⟩ := h
  exact ⟨d, U, RL, f, t1, t2, t3, t4, t5, t6, fs, rt, tob, DT, hs _ r1, hs _ r2, r3, fun p hp => hs p (r4 p hp), hs _ r5, r6, r7, r8, r9, r10.mono hs⟩
structure NI where
  nm : Str
  t : Tok
  rs : List RI
noncomputable def isTrueV (v : Value) : Bool := v == .bool true
noncomputable def okV (v : Value) : Bool := match v with | .builtin _ => false | _ => true
theorem best_ok : ∀ (rs : List RI) (a : Int × Value × Bool), okV a.2.1 = true → (∀ q ∈ rs, okV q.v = true) → okV (rs.foldl bestStep a).2.1 = true
  | [], a, h, _ => h
  | q :: rs, a, h, k => by
    refine best_ok rs _ ?_ fun q hq => k q (.tail _ hq)
    have hq := k q (.head _)
    unfold bestStep
    split
    · exact h
    · split
      · exact hq
      · split
        · exact hq
        · exact h
noncomputable def noteObjs (name : Str) (t : Tok) : List RI → List Addr → List (Addr × Obj)
  | q :: rs, T :: Ts => (T, ({ cls := .type "tuple", data := .seq #[.int q.j q.tj, .str name t] } : Obj)) :: noteObjs name t rs Ts
  | _, _ => []
theorem noteObjs_sub {name : Str} {t : Tok} {nx : List (Addr × Obj)} : ∀ {rs : List RI} {Ts : List Addr}, (∀ (k : Nat) (q : RI) (T : Addr), rs[k]? = some q → Ts[k]? = some T → (T, ({ cls := .type "tuple", data := .seq #[.int q.j q.tj, .str name t] } : Obj)) ∈ nx) → ∀ p ∈ noteObjs name t rs Ts, p ∈ nx
  | [], _, _, p, hp => by simp [noteObjs] at hp
  | _ :: _, [], _, p, hp => by simp [noteObjs] at hp
  | q :: rs, T :: Ts, h, p, hp => by
    rcases List.mem_cons.mp hp with rfl | hp
    · exact h 0 q T rfl rfl
    · exact noteObjs_sub (rs := rs) (Ts := Ts) (fun k q' T' h1 h2 => h (k + 1) q' T' (by simpa using h1) (by simpa using h2)) p hp
theorem noteObjs_in {name : Str} {t : Tok} : ∀ {rs : List RI} {Ts : List Addr} (k : Nat) (q : RI) (T : Addr), rs[k]? = some q → Ts[k]? = some T → (T, ({ cls := .type "tuple", data := .seq #[.int q.j q.tj, .str name t] } : Obj)) ∈ noteObjs name t rs Ts
  | [], _, k, q, T, h, _ => by simp at h
  | _ :: _, [], k, q, T, _, h => by simp at h
  | a :: rs, b :: Ts, 0, q, T, h1, h2 => by
    simp at h1 h2
    subst h1 h2
    exact .head _
  | a :: rs, b :: Ts, k + 1, q, T, h1, h2 => .tail _ (noteObjs_in (rs := rs) (Ts := Ts) k q T (by simpa using h1) (by simpa using h2))
theorem noteObjs_cls {name : Str} {t : Tok} : ∀ {rs : List RI} {Ts : List Addr}, ∀ p ∈ noteObjs name t rs Ts, p.2.cls = .type "tuple"
  | [], _, p, hp => by simp [noteObjs] at hp
  | _ :: _, [], p, hp => by simp [noteObjs] at hp
  | q :: rs, T :: Ts, p, hp => by
    rcases List.mem_cons.mp hp with rfl | hp
    · rfl
    · exact noteObjs_cls (rs := rs) (Ts := Ts) p hp
theorem apart_of {g h : Heap} {L a b : Addr} {o o' : Obj} {l : List (Addr × Obj)} (N : News g L h l) (h1 : (a, o) ∈ l) (h2 : (b, o') ∈ l) (hc : o.cls ≠ o'.cls) : a ≠ b := fun e => by
  subst e
  have q1 := (N _ h1).1
  have q2 := (N _ h2).1
  rw [q1] at q2
  exact hc (congrArg Obj.cls (Option.some.inj q2))
inductive AllowOut2 (nt : Addr) (news : List (Addr × Obj)) (ns : Array Value) (rs : List RI) (name : Str) (t : Tok) (v : Value) (nw : List (Addr × Obj)) : Prop
  | mk (Ts : List Addr) (c : Nat) (zz1 : v = (bestOf rs).2.1) (zz2 : Ts.length = rs.length) (zz3 : nw = (nt, ({ cls := .type "list", data := .seq (ns ++ (Ts.map Value.ref).toArray) c } : Obj)) :: (noteObjs name t rs Ts ++ news)) (zz4 : ∀ p ∈ noteObjs name t rs Ts, p.1 ≠ nt) : AllowOut2 nt news ns rs name t v nw
theorem ComesN.weak {prog : Program} {w : World} {dd cc : Nat} {f : Addr} {news : List (Addr × Obj)} {vs : List Value} {P P' : Value → List (Addr × Obj) → Prop} (C : ComesN prog w dd cc f news vs P) (h : ∀ v nw, P v nw → ∃ nw', P' v nw' ∧ ∀ p ∈ nw', p ∈ nw) : ComesN prog w dd cc f news vs P' := by
  unfold ComesN
  intro p loose mean mg mb dp un gd cn cs a ccd cl outer A₀ base h₀ L m s Q E B F X N T C1 C2 hk hd hu hret
  refine C p loose mean mg mb dp un gd cn cs a ccd cl outer A₀ base h₀ L m s Q E B F X N T C1 C2 hk hd hu fun v nw h' tk' hP F' N' => ?_
  obtain ⟨nw', hP', hs⟩ := h v nw hP
  exact hret v nw' h' tk' hP' F' fun p hp => N' p (hs p hp)
theorem AllowOut.two {prog : Program} {w : World} {nt : Addr} {news : List (Addr × Obj)} {ns : Array Value} {rs : List RI} {name : Str} {t : Tok} {v : Value} {nw : List (Addr × Obj)} (h : AllowOut prog w nt news ns rs name t v nw) : ∃ nw', AllowOut2 nt news ns rs name t v nw' ∧ ∀ p ∈ nw', p ∈ nw := by
  obtain ⟨Ts, tls, c, rfl, rfl, hno, htl⟩ := h
  have hs := noteObjs_sub (rs := rs) (Ts := Ts) hno.2
  refine ⟨_, ⟨Ts, c, rfl, hno.1, rfl, fun p hp => htl p (hs p hp)⟩, fun p hp => ?_⟩
  simp only [List.mem_cons, List.mem_append] at hp ⊢
  rcases hp with hp | hp | hp
  · exact .inl hp
  · exact .inr (.inl (hs p hp))
  · exact .inr (.inr hp)
inductive AnsIs (nx : List (Addr × Obj)) (n : NI) (T : Addr) : Prop
  | mk (Lk Ts c : _) (zz1 : (T, ({ cls := .type "tuple", data := .seq #[(bestOf n.rs).2.1, .bool (isTrueV (bestOf n.rs).2.1), .ref Lk] } : Obj)) ∈ nx) (zz2 : (Lk, ({ cls := .type "list", data := .seq (Ts.map Value.ref).toArray c } : Obj)) ∈ nx) (zz3 : NotesIn n.rs n.nm n.t Ts nx) : AnsIs nx n T
inductive AnsJ (g : Heap) (m₀ : Str → Option Value) (nt AL : Addr) (news : List (Addr × Obj)) (nis : List NI) (i : Nat) (h₀ : Heap) (m : Str → Option Value) (nx : List (Addr × Obj)) : Prop
  | mk (zz1 : h₀ = g) (Ts : List Addr) (own : List (Addr × Obj)) (c cn : Nat) (ns : Array Value) (uo : Str → Option Value) (zz2 : m = (fun z => if [Str.ofString "name", Str.ofString "verdict"].contains z then uo z else m₀ z)) (zz3 : ns.size ≤ 20) (zz4 : nx = (AL, ({ cls := .type "list", data := .seq (Ts.map Value.ref).toArray c } : Obj)) :: (nt, ({ cls := .type "list", data := .seq ns cn } : Obj)) :: (own ++ news)) (zz5 : (∀ p ∈ own, p.1 ≠ nt ∧ p.1 ≠ AL)) (zz6 : Ts.length = (nis.take i).length) (zz7 : ∀ (k : Nat) (n : NI) (T : Addr), (nis.take i)[k]? = some n → Ts[k]? = some T → AnsIs own n T) : AnsJ g m₀ nt AL news nis i h₀ m nx
theorem allow_two (prog : Program) (w : World) (news : List (Addr × Obj)) (e de U RL nt : Addr) (t1 t2 t3 t4 : Tok) (cR cn : Nat) (ns : Array Value) (rs : List RI) (name : Str) (t : Tok) (he : (e, instObj 52 de) ∈ news) (hde : (de, recD w.params U RL t1 t2 t3 t4) ∈ news) (hRL : (RL, ({ cls := .type "list", data := .seq (rs.map fun q => Value.ref q.x).toArray cR } : Obj)) ∈ news)
    (hn : ∀ p ∈ news, p.1 ≠ nt) (hrs : ∀ q ∈ rs, RuleIn prog w nt news name q) (hl : rs.length ≤ 10) (hns : ns.size ≤ 100) : ComesN prog w 10 200 49 ((nt, ({ cls := .type "list", data := .seq ns cn } : Obj)) :: news) [.ref e, .str name t] (AllowOut2 nt news ns rs name t) :=
  ComesN.weak (allow_call prog w news e de U RL nt t1 t2 t3 t4 cR cn ns rs name t he hde hRL hn hrs hl hns) fun v nw h => h.two
theorem clear_head {prog : Program} {w : World} {A : Around} {E : Value → Shared → Prop} {s : Shared} {h₀ : Heap} {L : Addr} {m : Str → Option Value} {rest : List (Addr × Obj)} {D : Addr} {its : Array Value} {n : Nat} {Q : Value → Shared → Prop} (Fh : Fr h₀ L s.heap m) (N : News h₀ L s.heap ((D, seqL its n) :: rest)) (hr : ∀ p ∈ rest, p.1 ≠ D) (hz : its.size ≤ 1000)
    (h : ∀ h' c', Fr h₀ L h' m → News h₀ L h' ((D, seqL #[] c') :: rest) → Q .none { s with heap := h' }) : wpAny (model prog w) A (call (.builtin "list.clear") [.ref D]) Q E s := by
  have z := N _ (.head _)
  refine call_meets PySem.F.slot_list_clear ⟨_, z.1, rfl⟩ PySem.F.entry_list_clear (PySem.F.args_list_clear_1 _) (PySem.AutoSeq1.list_clear_list_0 D its n (by unfold sizeLine; omega)) ⟨z.1, ?_⟩
  have hsb : Heap.SameBut D s.heap (s.heap.update D (Obj.mapSeq fun _ => #[])) := Heap.SameBut.update ..
  have hg : ∃ c', (s.heap.update D (Obj.mapSeq fun _ => #[])).get? D = some (seqL #[] c') := ⟨_, by rw [Heap.get?_update_self _ z.1 rfl]; simp only [Obj.mapSeq]; rfl⟩
  obtain ⟨c', hg⟩ := hg
  exact h _ c' (Fr.upd1 Fh N hsb) (News.upd1 N hsb hg hr)
theorem ans_up {h₀ h : Heap} {L : Addr} {a b c : Addr × Obj} {own news : List (Addr × Obj)} (N : News h₀ L h (a :: b :: c :: (own ++ news))) : News h₀ L h (c :: a :: b :: (own ++ news)) := KStt.news_of N fun p hp => by
  simp only [List.mem_cons, List.mem_append] at hp ⊢
  grind
theorem AllowOut.ex {prog : Program} {w : World} {nt : Addr} {news : List (Addr × Obj)} {ns : Array Value} {rs : List RI} {name : Str} {t : Tok} {v : Value} {nw : List (Addr × Obj)} (h : AllowOut prog w nt news ns rs name t v nw) : ∃ (Ts : List Addr) (tls : List (Addr × Obj)) (c : Nat), v = (bestOf rs).2.1 ∧ nw = (nt, ({ cls := .type "list", data := .seq (ns ++ (Ts.map Value.ref).toArray) c } : Obj)) :: (tls ++ news) ∧ NotesIn rs name t Ts tls ∧ ∀ p ∈ tls, p.1 ≠ nt := by obtain ⟨Ts, tls, c, h1, h2, h3, h4⟩ := h; exact ⟨Ts, tls, c, h1, h2, h3, h4⟩
theorem ans_mid {h₀ h : Heap} {L : Addr} {a b c : Addr × Obj} {tls own news : List (Addr × Obj)} (N : News h₀ L h (a :: (tls ++ b :: c :: (own ++ news)))) : News h₀ L h (a :: b :: c :: (tls ++ own ++ news)) := KStt.news_of N fun p hp => by
  simp only [List.mem_cons, List.mem_append] at hp ⊢
  grind
theorem stopAt {α : Type} {M : Model} {A : Around} {t : Sem α} {Q : α → Shared → Prop} {E : Value → Shared → Prop} {s : Shared} (h : Stop (wpAny M A t Q E s)) : wpAny M A t Q E s := h
theorem is_true_v {prog : Program} {w : World} {A : Around} {E : Value → Shared → Prop} {s : Shared} {v : Value} {Q : Value → Shared → Prop} (hv : okV v = true) (h : Q (.bool (isTrueV v)) s) : wpAny (model prog w) A (compareOp .Is v (.bool true)) Q E s :=
  wpAny_is_plain (by cases v <;> first | rfl | (simp [okV] at hv)) h
theorem ans_mid2 {h₀ h : Heap} {L : Addr} {a b c : Addr × Obj} {tls own news R : List (Addr × Obj)} (N : News h₀ L h (a :: (tls ++ b :: c :: (own ++ news)))) (e : R = tls ++ (own ++ news)) : News h₀ L h (a :: b :: c :: R) := KStt.news_of N fun p hp => by
  subst e
  simp only [List.mem_cons, List.mem_append] at hp ⊢
  grind
theorem ans_offI {g h : Heap} {L nt I AL : Addr} {on oI oA : Obj} {R own : List (Addr × Obj)} {nm : Str} {t : Tok} {rs : List RI} {Ts : List Addr} (N : News g L h ((nt, on) :: (I, oI) :: (AL, oA) :: R)) (h3 : ∀ p ∈ own, p.1 ≠ I) (hio : oI.cls = .type "list_iterator") (e : R = noteObjs nm t rs Ts ++ own) : ∀ p ∈ R, p.1 ≠ I := fun p hp => by
  have hp2 := hp
  rw [e] at hp2
  rcases List.mem_append.mp hp2 with q | q
  · exact apart_of (o := p.2) N (.tail _ (.tail _ (.tail _ hp))) (.tail _ (.head _)) (by rw [noteObjs_cls p q, hio]; simp)
  · exact h3 p q
theorem ans_offA {g h : Heap} {L nt I AL : Addr} {on oI : Obj} {vs : Array Value} {c : Nat} {R own : List (Addr × Obj)} {nm : Str} {t : Tok} {rs : List RI} {Ts : List Addr} (N : News g L h ((nt, on) :: (I, oI) :: (AL, ({ cls := .type "list", data := .seq vs c } : Obj)) :: R)) (h3 : ∀ p ∈ own, p.1 ≠ AL) (e : R = noteObjs nm t rs Ts ++ own) : ∀ p ∈ R, p.1 ≠ AL := fun p hp => by
  have hp2 := hp
  rw [e] at hp2
  rcases List.mem_append.mp hp2 with q | q
  · exact apart_of (o := p.2) N (.tail _ (.tail _ (.tail _ hp))) (.tail _ (.tail _ (.head _))) (by rw [noteObjs_cls p q]; simp)
  · exact h3 p q
theorem ans_offn {nt : Addr} {a b : Addr × Obj} {R own : List (Addr × Obj)} {nm : Str} {t : Tok} {rs : List RI} {Ts : List Addr} (h1 : ∀ p ∈ noteObjs nm t rs Ts, p.1 ≠ nt) (h3 : ∀ p ∈ a :: b :: own, p.1 ≠ nt) (e : R = noteObjs nm t rs Ts ++ own) : ∀ p ∈ R, p.1 ≠ nt := fun p hp => by
  rw [e] at hp
  rcases List.mem_append.mp hp with q | q
  · exact h1 p q
  · exact h3 p (.tail _ (.tail _ q))
theorem ans_turn {g h : Heap} {L I nt AL T Lk : Addr} {oI : Obj} {m' m₀ : Str → Option Value} {R own news : List (Addr × Obj)} {nis : List NI} {n : NI} {i c' cn' c3 : Nat} {Ts Tn : List Addr} {Q : Flow → Shared → Prop} {s : Shared} {tk : Tok}
    (F : Fr g L h m') (N : News g L h ((T, ({ cls := .type "tuple", data := .seq #[(bestOf n.rs).2.1, .bool (isTrueV (bestOf n.rs).2.1), .ref Lk] } : Obj)) :: (Lk, ({ cls := .type "list", data := .seq (#[] ++ (Tn.map Value.ref).toArray) c3 } : Obj)) :: (nt, ({ cls := .type "list", data := .seq (#[] ++ (Tn.map Value.ref).toArray) cn' } : Obj)) :: (I, oI) ::
      (AL, ({ cls := .type "list", data := .seq ((Ts.map Value.ref).toArray.push (.ref T)) c' } : Obj)) :: R)) (hn : nis[i]? = some n) (hR : R = noteObjs n.nm n.t n.rs Tn ++ (own ++ news)) (hTl : Tn.length = n.rs.length) (hx : n.rs.length ≤ 10) (how : ∀ p ∈ own, p.1 ≠ nt ∧ p.1 ≠ AL) (hl : Ts.length = (nis.take i).length)
    (hTs : ∀ (k : Nat) (n : NI) (T : Addr), (nis.take i)[k]? = some n → Ts[k]? = some T → AnsIs own n T) (l1 : @LT.lt Nat instLTNat nt Lk ∧ @LT.lt Nat instLTNat I Lk ∧ @LT.lt Nat instLTNat AL Lk ∧ AllLt Lk R) (l2 : @LT.lt Nat instLTNat Lk T ∧ @LT.lt Nat instLTNat nt T ∧ @LT.lt Nat instLTNat I T ∧ @LT.lt Nat instLTNat AL T ∧ AllLt T R)
    (hRI : ∀ p ∈ R, p.1 ≠ I) (hRA : ∀ p ∈ R, p.1 ≠ AL) (hRn : ∀ p ∈ R, p.1 ≠ nt) (hIn : I ≠ nt) (hIA : I ≠ AL) (hm : ∀ z, z ≠ Str.ofString "verdict" → z ≠ Str.ofString "name" → m' z = m₀ z) : TurnPost L I oI (AnsJ g m₀ nt AL news nis (i + 1)) Q s .next { s with heap := h, toks := tk } := by
  have hTI : T ≠ I := Ne.symm (Nat.ne_of_lt l2.2.2.1)
  have hLI : Lk ≠ I := Ne.symm (Nat.ne_of_lt l1.2.1)
  have hTn2 : T ≠ nt := Ne.symm (Nat.ne_of_lt l2.2.1)
  have hTA : T ≠ AL := Ne.symm (Nat.ne_of_lt l2.2.2.2.1)
  have hLn : Lk ≠ nt := Ne.symm (Nat.ne_of_lt l1.1)
  have hLA : Lk ≠ AL := Ne.symm (Nat.ne_of_lt l1.2.2.1)
  have sub : ∀ p ∈ noteObjs n.nm n.t n.rs Tn, p ∈ R := fun p hp => hR ▸ List.mem_append_left _ hp
  have sub2 : ∀ p ∈ own ++ news, p ∈ R := fun p hp => hR ▸ List.mem_append_right _ hp
  refine Back.intro F N (nx := (AL, ({ cls := .type "list", data := .seq ((Ts ++ [T]).map Value.ref).toArray c' } : Obj)) :: (nt, ({ cls := .type "list", data := .seq (#[] ++ (Tn.map Value.ref).toArray) cn' } : Obj)) :: (((T, ({ cls := .type "tuple", data := .seq #[(bestOf n.rs).2.1, .bool (isTrueV (bestOf n.rs).2.1), .ref Lk] } : Obj)) :: (Lk, ({ cls := .type "list", data := .seq (#[] ++ (Tn.map Value.ref).toArray) c3 } : Obj)) :: (noteObjs n.nm n.t n.rs Tn ++ own)) ++ news))
    (fun p hp => ?_) (fun p hp => ?_) ⟨rfl, Ts ++ [T], _, c', cn', #[] ++ (Tn.map Value.ref).toArray, m', ?_, ?_, rfl, fun p hp => ?_, ?_, fun k q T' hk hT' => ?_⟩
  · have e : ((Ts ++ [T]).map Value.ref).toArray = (Ts.map Value.ref).toArray.push (.ref T) := by simp
    rw [e] at hp
    simp only [List.mem_cons, List.mem_append, List.cons_append] at hp ⊢
    have s1 := sub p
    have s2 := sub2 p
    simp only [List.mem_append] at s2
    grind
  · simp only [List.mem_cons, List.mem_append, List.cons_append] at hp
    rcases hp with rfl | rfl | rfl | rfl | (hp | hp) | hp
    · exact Ne.symm hIA
    · exact Ne.symm hIn
    · exact hTI
    · exact hLI
    · exact hRI p (sub p hp)
    · exact hRI p (sub2 p (List.mem_append_left _ hp))
    · exact hRI p (sub2 p (List.mem_append_right _ hp))
  · funext z
    by_cases c1 : z = Str.ofString "verdict"
    · subst c1; simp
    · by_cases c2 : z = Str.ofString "name"
      · subst c2; simp
      · rw [hm z c1 c2]
        simp [c1, c2]
  · simp; omega
  · simp only [List.mem_cons, List.mem_append] at hp
    rcases hp with rfl | rfl | hp | hp
    · exact ⟨hTn2, hTA⟩
    · exact ⟨hLn, hLA⟩
    · exact ⟨hRn p (sub p hp), hRA p (sub p hp)⟩
    · exact how p hp
  · have hi := (List.getElem?_eq_some_iff.mp hn).1
    rw [List.length_take] at hl ⊢
    simp
    omega
  · have hi := (List.getElem?_eq_some_iff.mp hn).1
    rw [List.length_take] at hl
    by_cases c : k < i
    · rw [List.getElem?_append_left (by omega)] at hT'
      rw [List.getElem?_take_of_lt (by omega)] at hk
      obtain ⟨Lk', Ts', cc, a1, a2, a3⟩ := hTs k q T' (by rw [List.getElem?_take_of_lt c]; exact hk) hT'
      have up : ∀ p ∈ own, p ∈ ((T, ({ cls := .type "tuple", data := .seq #[(bestOf n.rs).2.1, .bool (isTrueV (bestOf n.rs).2.1), .ref Lk] } : Obj)) :: (Lk, ({ cls := .type "list", data := .seq (#[] ++ (Tn.map Value.ref).toArray) c3 } : Obj)) :: (noteObjs n.nm n.t n.rs Tn ++ own)) := fun p hp => .tail _ (.tail _ (List.mem_append_right _ hp))
      exact ⟨Lk', Ts', cc, up _ a1, up _ a2, a3.1, fun k q T h1 h2 => up _ (a3.2 k q T h1 h2)⟩
    · have hk2 : k = i := by
        have := (List.getElem?_eq_some_iff.mp hk).1
        simp at this
        omega
      subst hk2
      rw [List.getElem?_take_of_lt (by omega), hn] at hk
      cases hk
      rw [List.getElem?_append_right (by omega), show k - Ts.length = 0 by omega] at hT'
      simp at hT'
      subst hT'
      exact ⟨Lk, Tn, c3, .head _, .tail _ (by rw [Array.empty_append]; exact .head _), hTl, fun k q T h1 h2 => .tail _ (.tail _ (List.mem_append_left _ (noteObjs_in k q T h1 h2)))⟩
inductive AnsOut (nt : Addr) (news : List (Addr × Obj)) (nis : List NI) (v : Value) (nw : List (Addr × Obj)) : Prop
  | mk (AL : Addr) (Ts : List Addr) (own : List (Addr × Obj)) (c cn : Nat) (ns : Array Value) (zz1 : v = .ref AL) (zz2 : ns.size ≤ 20) (zz3 : nw = (AL, ({ cls := .type "list", data := .seq (Ts.map Value.ref).toArray c } : Obj)) :: (nt, ({ cls := .type "list", data := .seq ns cn } : Obj)) :: (own ++ news)) (zz4 : AL ≠ nt) (zz5 : (∀ p ∈ news, p.1 ≠ AL)) (zz6 : (∀ p ∈ own, p.1 ≠ nt ∧ p.1 ≠ AL)) (zz7 : Ts.length = nis.length) (zz8 : ∀ (k : Nat) (n : NI) (T : Addr), nis[k]? = some n → Ts[k]? = some T → AnsIs own n T) : AnsOut nt news nis v nw
namespace An
noncomputable def S0 (prog : Program) (w : World) (news : List (Addr × Obj)) (e de U RL nl nt : Addr) (t1 t2 t3 t4 : Tok) (cR cl₀ cn : Nat) (xs : List Addr) (nis : List NI) (ns : Array Value) (p : Program) (loose : List Str) (mean : ExcName → Option Value) (mg : Str → Option Value) (mb : Str → Option Value) (dp : Nat) (un : Nat) (gd : Option (List Code)) (cnn : Str) (cnm : List (Str × NameKind)) (cig : Bool) (cic : Bool) (cmo : List (Str × Const)) (a : Addr) (ccd : Value) (cl : List (Str × Addr)) (outer : List Env) (A₀ : Around) (base : Heap) (h₀ : Heap) (L : Addr) (m : Str → Option Value) (s : Shared) (Q : Value → Shared → Prop) (E : Value → Shared → Prop) : Prop :=
  (e, instObj 52 de) ∈ news → (de, recD w.params U RL t1 t2 t3 t4) ∈ news → (RL, ({ cls := .type "list", data := .seq (xs.map Value.ref).toArray cR } : Obj)) ∈ news → (nl, ({ cls := .type "list", data := .seq (nis.map fun n => Value.str n.nm n.t).toArray cl₀ } : Obj)) ∈ news → (∀ p ∈ news, p.1 ≠ nt) → (∀ n ∈ nis, n.rs.map (·.x) = xs) → (∀ n ∈ nis, ∀ q ∈ n.rs, RuleIn prog w nt news n.nm q) → (∀ n ∈ nis, ∀ q ∈ n.rs, okV q.v = true) → xs.length ≤ 10 → nis.length ≤ 10 → ns.size ≤ 20 → 
  ComesNv prog w 20 300 175 ((nt, ({ cls := .type "list", data := .seq ns cn } : Obj)) :: news) [.ref e, .ref nl, .ref nt] (AnsOut nt news nis) p loose mean mg mb dp un gd cnn ⟨.function, cnm, cig, cic, cmo⟩ a ccd cl outer A₀ base h₀ L m s Q E
noncomputable def P0 (x : Program × World × (List (Addr × Obj)) × Addr × Addr × Addr × Addr × Addr × Addr × Tok × Tok × Tok × Tok × Nat × Nat × Nat × List Addr × List NI × Array Value × Program × List Str × (ExcName → Option Value) × (Str → Option Value) × (Str → Option Value) × Nat × Nat × Option (List Code) × Str × (List (Str × NameKind)) × Bool × Bool × (List (Str × Const)) × Addr × Value × (List (Str × Addr)) × List Env × Around × Heap × Heap × Addr × (Str → Option Value) × Shared × (Value → Shared → Prop) × (Value → Shared → Prop)) : Prop := S0 x.1 x.2.1 x.2.2.1 x.2.2.2.1 x.2.2.2.2.1 x.2.2.2.2.2.1 x.2.2.2.2.2.2.1 x.2.2.2.2.2.2.2.1 x.2.2.2.2.2.2.2.2.1 x.2.2.2.2.2.2.2.2.2.1 x.2.2.2.2.2.2.2.2.2.2.1 x.2.2.2.2.2.2.2.2.2.2.2.1 x.2.2.2.2.2.2.2.2.2.2.2.2.1 x.2.2.2.2.2.2.2.2.2.2.2.2.2.1 x.2.2.2.2.2.2.2.2.2.2.2.2.2.2.1 x.2.2.2.2.2.2.2.2.2.2.2.2.2.2.2.1 x.2.2.2.2.2.2.2.2.2.2.2.2.2.2.2.2.1 x.2.2.2.2.2.2.2.2.2.2.2.2.2.2.2.2.2.1 x.2.2.2.2.2.2.2.2.2.2.2.2.2.2.2.2.2.2.1 x.2.2.2.2.2.2.2.2.2.2.2.2.2.2.2.2.2.2.2.1 x.2.2.2.2.2.2.2.2.2.2.2.2.2.2.2.2.2.2.2.2.1 x.2.2.2.2.2.2.2.2.2.2.2.2.2.2.2.2.2.2.2.2.2.1 x.2.2.2.2.2.2.2.2.2.2.2.2.2.2.2.2.2.2.2.2.2.2.1 x.2.2.2.2.2.2.2.2.2.2.2.2.2.2.2.2.2.2.2.2.2.2.2.1 x.2.2.2.2.2.2.2.2.2.2.2.2.2.2.2.2.2.2.2.2.2.2.2.2.1 x.2.2.2.2.2.2.2.2.2.2.2.2.2.2.2.2.2.2.2.2.2.2.2.2.2.1 x.2.2.2.2.2.2.2.2.2.2.2.2.2.2.2.2.2.2.2.2.2.2.2.2.2.2.1 x.2.2.2.2.2.2.2.2.2.2.2.2.2.2.2.2.2.2.2.2.2.2.2.2.2.2.2.1 x.2.2.2.2.2.2.2.2.2.2.2.2.2.2.2.2.2.2.2.2.2.2.2.2.2.2.2.2.1 x.2.2.2.2.2.2.2.2.2.2.2.2.2.2.2.2.2.2.2.2.2.2.2.2.2.2.2.2.2.1 x.2.2.2.2.2.2.2.2.2.2.2.2.2.2.2.2.2.2.2.2.2.2.2.2.2.2.2.2.2.2.1 x.2.2.2.2.2.2.2.2.2.2.2.2.2.2.2.2.2.2.2.2.2.2.2.2.2.2.2.2.2.2.2.1 x.2.2.2.2.2.2.2.2.2.2.2.2.2.2.2.2.2.2.2.2.2.2.2.2.2.2.2.2.2.2.2.2.1 x.2.2.2.2.2.2.2.2.2.2.2.2.2.2.2.2.2.2.2.2.2.2.2.2.2.2.2.2.2.2.2.2.2.1 x.2.2.2.2.2.2.2.2.2.2.2.2.2.2.2.2.2.2.2.2.2.2.2.2.2.2.2.2.2.2.2.2.2.2.1 x.2.2.2.2.2.2.2.2.2.2.2.2.2.2.2.2.2.2.2.2.2.2.2.2.2.2.2.2.2.2.2.2.2.2.2.1 x.2.2.2.2.2.2.2.2.2.2.2.2.2.2.2.2.2.2.2.2.2.2.2.2.2.2.2.2.2.2.2.2.2.2.2.2.1 x.2.2.2.2.2.2.2.2.2.2.2.2.2.2.2.2.2.2.2.2.2.2.2.2.2.2.2.2.2.2.2.2.2.2.2.2.2.1 x.2.2.2.2.2.2.2.2.2.2.2.2.2.2.2.2.2.2.2.2.2.2.2.2.2.2.2.2.2.2.2.2.2.2.2.2.2.2.1 x.2.2.2.2.2.2.2.2.2.2.2.2.2.2.2.2.2.2.2.2.2.2.2.2.2.2.2.2.2.2.2.2.2.2.2.2.2.2.2.1 x.2.2.2.2.2.2.2.2.2.2.2.2.2.2.2.2.2.2.2.2.2.2.2.2.2.2.2.2.2.2.2.2.2.2.2.2.2.2.2.2.1 x.2.2.2.2.2.2.2.2.2.2.2.2.2.2.2.2.2.2.2.2.2.2.2.2.2.2.2.2.2.2.2.2.2.2.2.2.2.2.2.2.2.1 x.2.2.2.2.2.2.2.2.2.2.2.2.2.2.2.2.2.2.2.2.2.2.2.2.2.2.2.2.2.2.2.2.2.2.2.2.2.2.2.2.2.2.1 x.2.2.2.2.2.2.2.2.2.2.2.2.2.2.2.2.2.2.2.2.2.2.2.2.2.2.2.2.2.2.2.2.2.2.2.2.2.2.2.2.2.2.2
noncomputable def k0 : Program × World × (List (Addr × Obj)) × Addr × Addr × Addr × Addr × Addr × Addr × Tok × Tok × Tok × Tok × Nat × Nat × Nat × List Addr × List NI × Array Value × Program × List Str × (ExcName → Option Value) × (Str → Option Value) × (Str → Option Value) × Nat × Nat × Option (List Code) × Str × (List (Str × NameKind)) × Bool × Bool × (List (Str × Const)) × Addr × Value × (List (Str × Addr)) × List Env × Around × Heap × Heap × Addr × (Str → Option Value) × Shared × (Value → Shared → Prop) × (Value → Shared → Prop) := henk (qv, aWorld 1, [], 0, 0, 0, 0, 0, 0, default, default, default, default, 0, 0, 0, [], [], #[], qv, [], fun _ => none, fun _ => none, fun _ => none, 0, 0, none, default, [], false, false, [], 0, .none, [], [], hen_a, default, default, 0, fun _ => none, hen_s, fun _ _ => True, fun _ _ => True) P0
@[irreducible] noncomputable def prog : Program := k0.1
@[irreducible] noncomputable def w : World := k0.2.1
@[irreducible] noncomputable def news : List (Addr × Obj) := k0.2.2.1
@[irreducible] noncomputable def e : Addr := k0.2.2.2.1
@[irreducible] noncomputable def de : Addr := k0.2.2.2.2.1
@[irreducible] noncomputable def U : Addr := k0.2.2.2.2.2.1
@[irreducible] noncomputable def RL : Addr := k0.2.2.2.2.2.2.1
@[irreducible] noncomputable def nl : Addr := k0.2.2.2.2.2.2.2.1
@[irreducible] noncomputable def nt : Addr := k0.2.2.2.2.2.2.2.2.1
@[irreducible] noncomputable def t1 : Tok := k0.2.2.2.2.2.2.2.2.2.1
@[irreducible] noncomputable def t2 : Tok := k0.2.2.2.2.2.2.2.2.2.2.1
@[irreducible] noncomputable def t3 : Tok := k0.2.2.2.2.2.2.2.2.2.2.2.1
@[irreducible] noncomputable def t4 : Tok := k0.2.2.2.2.2.2.2.2.2.2.2.2.1
@[irreducible] noncomputable def cR : Nat := k0.2.2.2.2.2.2.2.2.2.2.2.2.2.1
@[irreducible] noncomputable def cl₀ : Nat := k0.2.2.2.2.2.2.2.2.2.2.2.2.2.2.1
@[irreducible] noncomputable def cn : Nat := k0.2.2.2.2.2.2.2.2.2.2.2.2.2.2.2.1
@[irreducible] noncomputable def xs : List Addr := k0.2.2.2.2.2.2.2.2.2.2.2.2.2.2.2.2.1
@[irreducible] noncomputable def nis : List NI := k0.2.2.2.2.2.2.2.2.2.2.2.2.2.2.2.2.2.1
@[irreducible] noncomputable def ns : Array Value := k0.2.2.2.2.2.2.2.2.2.2.2.2.2.2.2.2.2.2.1
@[irreducible] noncomputable def p : Program := k0.2.2.2.2.2.2.2.2.2.2.2.2.2.2.2.2.2.2.2.1
@[irreducible] noncomputable def loose : List Str := k0.2.2.2.2.2.2.2.2.2.2.2.2.2.2.2.2.2.2.2.2.1
@[irreducible] noncomputable def mean : ExcName → Option Value := k0.2.2.2.2.2.2.2.2.2.2.2.2.2.2.2.2.2.2.2.2.2.1
@[irreducible] noncomputable def mg : Str → Option Value := k0.2.2.2.2.2.2.2.2.2.2.2.2.2.2.2.2.2.2.2.2.2.2.1
@[irreducible] noncomputable def mb : Str → Option Value := k0.2.2.2.2.2.2.2.2.2.2.2.2.2.2.2.2.2.2.2.2.2.2.2.1
@[irreducible] noncomputable def dp : Nat := k0.2.2.2.2.2.2.2.2.2.2.2.2.2.2.2.2.2.2.2.2.2.2.2.2.1
@[irreducible] noncomputable def un : Nat := k0.2.2.2.2.2.2.2.2.2.2.2.2.2.2.2.2.2.2.2.2.2.2.2.2.2.1
@[irreducible] noncomputable def gd : Option (List Code) := k0.2.2.2.2.2.2.2.2.2.2.2.2.2.2.2.2.2.2.2.2.2.2.2.2.2.2.1
@[irreducible] noncomputable def cnn : Str := k0.2.2.2.2.2.2.2.2.2.2.2.2.2.2.2.2.2.2.2.2.2.2.2.2.2.2.2.1
@[irreducible] noncomputable def cnm : List (Str × NameKind) := k0.2.2.2.2.2.2.2.2.2.2.2.2.2.2.2.2.2.2.2.2.2.2.2.2.2.2.2.2.1
@[irreducible] noncomputable def cig : Bool := k0.2.2.2.2.2.2.2.2.2.2.2.2.2.2.2.2.2.2.2.2.2.2.2.2.2.2.2.2.2.1
@[irreducible] noncomputable def cic : Bool := k0.2.2.2.2.2.2.2.2.2.2.2.2.2.2.2.2.2.2.2.2.2.2.2.2.2.2.2.2.2.2.1
@[irreducible] noncomputable def cmo : List (Str × Const) := k0.2.2.2.2.2.2.2.2.2.2.2.2.2.2.2.2.2.2.2.2.2.2.2.2.2.2.2.2.2.2.2.1
@[irreducible] noncomputable def a : Addr := k0.2.2.2.2.2.2.2.2.2.2.2.2.2.2.2.2.2.2.2.2.2.2.2.2.2.2.2.2.2.2.2.2.1
@[irreducible] noncomputable def ccd : Value := k0.2.2.2.2.2.2.2.2.2.2.2.2.2.2.2.2.2.2.2.2.2.2.2.2.2.2.2.2.2.2.2.2.2.1
@[irreducible] noncomputable def cl : List (Str × Addr) := k0.2.2.2.2.2.2.2.2.2.2.2.2.2.2.2.2.2.2.2.2.2.2.2.2.2.2.2.2.2.2.2.2.2.2.1
@[irreducible] noncomputable def outer : List Env := k0.2.2.2.2.2.2.2.2.2.2.2.2.2.2.2.2.2.2.2.2.2.2.2.2.2.2.2.2.2.2.2.2.2.2.2.1
@[irreducible] noncomputable def A₀ : Around := k0.2.2.2.2.2.2.2.2.2.2.2.2.2.2.2.2.2.2.2.2.2.2.2.2.2.2.2.2.2.2.2.2.2.2.2.2.1
@[irreducible] noncomputable def base : Heap := k0.2.2.2.2.2.2.2.2.2.2.2.2.2.2.2.2.2.2.2.2.2.2.2.2.2.2.2.2.2.2.2.2.2.2.2.2.2.1
@[irreducible] noncomputable def h₀ : Heap := k0.2.2.2.2.2.2.2.2.2.2.2.2.2.2.2.2.2.2.2.2.2.2.2.2.2.2.2.2.2.2.2.2.2.2.2.2.2.2.1
@[irreducible] noncomputable def L : Addr := k0.2.2.2.2.2.2.2.2.2.2.2.2.2.2.2.2.2.2.2.2.2.2.2.2.2.2.2.2.2.2.2.2.2.2.2.2.2.2.2.1
@[irreducible] noncomputable def m : Str → Option Value := k0.2.2.2.2.2.2.2.2.2.2.2.2.2.2.2.2.2.2.2.2.2.2.2.2.2.2.2.2.2.2.2.2.2.2.2.2.2.2.2.2.1
@[irreducible] noncomputable def s : Shared := k0.2.2.2.2.2.2.2.2.2.2.2.2.2.2.2.2.2.2.2.2.2.2.2.2.2.2.2.2.2.2.2.2.2.2.2.2.2.2.2.2.2.1
@[irreducible] noncomputable def Q : Value → Shared → Prop := k0.2.2.2.2.2.2.2.2.2.2.2.2.2.2.2.2.2.2.2.2.2.2.2.2.2.2.2.2.2.2.2.2.2.2.2.2.2.2.2.2.2.2.1
@[irreducible] noncomputable def E : Value → Shared → Prop := k0.2.2.2.2.2.2.2.2.2.2.2.2.2.2.2.2.2.2.2.2.2.2.2.2.2.2.2.2.2.2.2.2.2.2.2.2.2.2.2.2.2.2.2
theorem main : S0 prog w news e de U RL nl nt t1 t2 t3 t4 cR cl₀ cn xs nis ns p loose mean mg mb dp un gd cnn cnm cig cic cmo a ccd cl outer A₀ base h₀ L m s Q E := by
  unfold S0 ComesNv
  intro he hde hRL hnl hn hxs hrs hok hx hl hns B F X N T C1 C2 hk hd hu hret
  unfold recD at hde
  refine wpAny_call ?_
  k_enter
  k_steps
  show wpAny _ _ _ _ _ _
  k_steps
  (with_reducible rename Fr _ _ _ _ => F1; with_reducible rename News _ _ _ _ => N1)
  have lAL0 := (by assumption : @LT.lt Nat instLTNat nt _ ∧ AllLt _ news)
  have lAL : @Ne Nat nt (nwHead N1) := Nat.ne_of_lt lAL0.1
  have lAL2 : ∀ p ∈ news, p.1 ≠ nwHead N1 := fun p hp => Nat.ne_of_lt (allLt_mem lAL0.2 p hp)
  dsimp only [nwHead] at lAL lAL2
  refine wpAny_pyIter_list (News.isList N1 (.tail _ (.tail _ hnl))) ?_
  refine for_led (L := frL F1) (AnsJ (frBase F1) (frMap F1) nt (nwHead N1) news nis)
    (Walks.list (by rfl) _ nl (Nat.ne_of_lt (Heap.lt_size (N1 _ (.tail _ (.tail _ hnl))).1)) (nis.map fun n => Value.str n.nm n.t).toArray) (fun o => o.cls = .type "list_iterator") (fun i h st => by obtain ⟨o, e, e2, e3⟩ := st.1; exact ⟨o, e, e2⟩) ?hSt (fun _ => rfl) ?turn ?done (F1.keeps fun _ _ e => Heap.get?_push_of_some _ e) (N1.grown fun _ _ e => Heap.get?_push_of_some _ e) (Ne.symm (Nat.ne_of_lt F1.ns.lt)) (next_is_new F1) (fun p hp => Nat.ne_of_lt (Heap.lt_size (N1 p hp).1)) ⟨⟨_, Heap.get?_push_size _ rfl, rfl, rfl⟩, (News.isList N1 (.tail _ (.tail _ hnl))).push _⟩ ?start
  case start => exact ⟨rfl, [], [], _, _, ns, frMap F1, by funext z; rw [ite_self], hns, rfl, (fun p hp => nomatch hp), rfl, fun k n T h => by simp at h⟩
  case hSt =>
    intro i j h h' o h₀ m nx st e e' F2 N2 hj
    refine hideG ?_
    intro b9 hb9
    rcases hj with ⟨_, Ts, own, c, cn, ns, uo, _, _, rfl, _⟩
    refine hb9 ?_
    clear hb9 b9
    exact LCg.list_st i h h' o _ st e e' F2.keep N2 (.inr ⟨_, .tail _ (.tail _ (List.mem_append_right _ hnl)), rfl, _, rfl⟩)
  case turn =>
    intro i v oI h₀2 m2 nx2 h2' tk2 E2 hi hv hio F2 N2 off2 hj
    refine hideG ?_
    intro b9 hb9
    rcases hj with ⟨rfl, Ts, own, c, cn, ns, uo, rfl, hns, rfl, how, hTl, hTs⟩
    refine hb9 ?_
    clear hb9 b9
    obtain ⟨n, hn', rfl⟩ : ∃ n, nis[i]? = some n ∧ v = .str n.nm n.t := by
      simp only [List.getElem?_toArray, List.getElem?_map, Option.map_eq_some_iff] at hv
      obtain ⟨q, h1, h2⟩ := hv
      exact ⟨q, h1, h2.symm⟩
    dsimp only [frL, frBase, frMap, nwHead] at F2 N2 off2 how ⊢
    clear N1 F1 hv
    have Nq := ans_up N2
    have hne : ∀ p ∈ (nwHead N2, oI) :: (nwHead2 N2, ({ cls := .type "list", data := .seq (Ts.map Value.ref).toArray c } : Obj)) :: (own ++ news), p.1 ≠ nt := fun p hp => by
      rcases List.mem_cons.mp hp with rfl | hp
      · exact Ne.symm (off2 _ (.tail _ (.head _)))
      rcases List.mem_cons.mp hp with rfl | hp
      · exact Ne.symm lAL
      rcases List.mem_append.mp hp with hp | hp
      · exact (how p hp).1
      · exact hn p hp
    dsimp only [nwHead, nwHead2] at hne
    clear N2
    have x1 := List.mem_append_right own he
    have x2 := List.mem_append_right own hde
    have x3 := List.mem_append_right own hRL
    have hmem := List.mem_of_getElem? hn'
    have x4 : (RL, ({ cls := .type "list", data := .seq (n.rs.map fun q => Value.ref q.x).toArray cR } : Obj)) ∈ own ++ news := by
      have e : (n.rs.map fun q => Value.ref q.x) = xs.map Value.ref := by rw [← hxs n hmem, List.map_map]; rfl
      rw [e]; exact x3
    have x5 : n.rs.length ≤ 10 := by rw [← List.length_map (f := (·.x)), hxs n hmem]; exact hx
    have x6 := fun q hq => (hrs n hmem q hq).mono fun p hp => List.mem_append_right own hp
    have x7 : ∀ (a b : Addr × Obj), ∀ q ∈ n.rs, RuleIn prog w nt (a :: b :: (own ++ news)) n.nm q := fun a b q hq => (x6 q hq).mono fun p hp => .tail _ (.tail _ hp)
    have x8 : okV (bestOf n.rs).2.1 = true := best_ok _ _ rfl fun q hq => hok n hmem q hq
    have hI1 : @Ne Nat _ _ := off2 _ (.head _)
    have hI2 : @Ne Nat _ _ := off2 _ (.tail _ (.head _))
    have hI3 : ∀ p ∈ own ++ news, p.1 ≠ _ := fun p hp => off2 p (.tail _ (.tail _ hp))
    dsimp only at hI1 hI2 hI3
    have hA3 : ∀ p ∈ own ++ news, p.1 ≠ _ := fun p hp => (List.mem_append.mp hp).elim (fun hp => (how p hp).2) (fun hp => lAL2 p hp)
    have hTn : (Ts.map Value.ref).toArray.size ≤ 10 := by
      have : (nis.take i).length ≤ nis.length := by rw [List.length_take]; exact Nat.min_le_right _ _
      simp only [List.size_toArray, List.length_map]
      omega
    (k_with "call builtin:list.clear" => (k_here; k_dflt (refine clear_head (by k_asm) (by k_asm) hne (by omega) ?_); intro h' c' F' N'))
    (k_with "call ref" => (refine stopAt ?_))
    k_steps
    refine (id ?_ : Stop _)
    k_here
    k_dflt (refine' allow_two prog w _ e de U RL nt t1 t2 t3 t4 cR _ #[] n.rs n.nm n.t ?xa ?xb ?xc ?xd ?xe ?xf ?xg _ _ _ _ _ _ _ _ _ _ _ _ _ _ _ _ _ _ _ _ _ _ ?xB ?xF ?xX ?xN ?xT ?xC1 ?xC2 ?xk ?xdd ?xu ?_; (case xN => k_asm); (case xB => k_asm); (case xF => k_asm); (case xX => k_asm); (case xT => k_asm); (case xC1 => k_asm); (case xC2 => k_asm); (case xk => exact rfl); (case xdd => ktr_room); (case xu => ktr_units); (case xa => exact .tail _ (.tail _ x1)); (case xb => exact .tail _ (.tail _ x2)); (case xc => exact .tail _ (.tail _ x4)); (case xd => exact hne); (case xe => exact x7 _ _); (case xf => exact x5); (case xg => decide))
    intro v9 nw9 h' tk' hP9 F' N'
    (obtain ⟨Tn, cn9, rfl, hTl9, rfl, htl9⟩ := hP9)
    (obtain ⟨R, hR⟩ : ∃ R, R = noteObjs n.nm n.t n.rs Tn ++ (own ++ news) := ⟨_, rfl⟩)
    replace N' := ans_mid2 N' hR
    (have hRI := ans_offI N' hI3 hio hR)
    (have hRA := ans_offA N' hA3 hR)
    (have hRn := ans_offn htl9 hne hR)
    (k_with "compareOp Is" => (k_here; k_dflt (refine is_true_v x8 ?_)))
    k_steps
    (with_reducible rename Fr _ _ _ _ => F7; with_reducible rename News _ _ _ _ => N7)
    exact ans_turn F7 N7 hn' hR hTl9 x5 how hTl hTs (by assumption) (by assumption) hRI hRA hRn (Ne.symm hI2) (Ne.symm hI1) (fun z h1 h2 => by simp only [if_neg h1, if_neg h2]; simp [h1, h2])
  intro h₀2 m2 nx2 h2' tk2 F2 N2 hj
  refine hideG ?_
  intro b9 hb9
  rcases hj with ⟨rfl, Ts, own, c, cn, ns, uo, rfl, hns, rfl, how, hTl, hTs⟩
  refine hb9 ?_
  clear hb9 b9
  dsimp only [frL, frBase, frMap, nwHead] at F2 N2 how ⊢
  clear N1 F1
  have ht : nis.take (nis.map fun n => Value.str n.nm n.t).toArray.size = nis := by simp
  rw [ht] at hTl hTs
  k_steps
  (with_reducible rename Fr _ _ _ _ => F7; with_reducible rename News _ _ _ _ => N7)
  exact hret _ _ _ _ ⟨_, Ts, own, _, _, ns, rfl, hns, rfl, Ne.symm lAL, lAL2, how, hTl, hTs⟩ (by k_asm) N7
end An
theorem answers_call (prog : Program) (w : World) (news : List (Addr × Obj)) (e de U RL nl nt : Addr) (t1 t2 t3 t4 : Tok) (cR cl₀ cn : Nat) (xs : List Addr) (nis : List NI) (ns : Array Value) (he : (e, instObj 52 de) ∈ news) (hde : (de, recD w.params U RL t1 t2 t3 t4) ∈ news) (hRL : (RL, ({ cls := .type "list", data := .seq (xs.map Value.ref).toArray cR } : Obj)) ∈ news)
    (hnl : (nl, ({ cls := .type "list", data := .seq (nis.map fun n => Value.str n.nm n.t).toArray cl₀ } : Obj)) ∈ news) (hn : ∀ p ∈ news, p.1 ≠ nt) (hxs : ∀ n ∈ nis, n.rs.map (·.x) = xs) (hrs : ∀ n ∈ nis, ∀ q ∈ n.rs, RuleIn prog w nt news n.nm q) (hok : ∀ n ∈ nis, ∀ q ∈ n.rs, okV q.v = true) (hx : xs.length ≤ 10) (hl : nis.length ≤ 10) (hns : ns.size ≤ 20) :
    ComesN prog w 20 300 175 ((nt, ({ cls := .type "list", data := .seq ns cn } : Obj)) :: news) [.ref e, .ref nl, .ref nt] (AnsOut nt news nis) := by
  intro p loose mean mg mb dp un gd cnn cs a ccd cl outer A₀ base h₀ L m s Q E B F X N T C1 C2 hk
  obtain ⟨ck, cnm, cig, cic, cmo⟩ := cs
  cases hk
  exact henk_all (P := An.P0) (by with_unfolding_all exact An.main) (prog, w, news, e, de, U, RL, nl, nt, t1, t2, t3, t4, cR, cl₀, cn, xs, nis, ns, p, loose, mean, mg, mb, dp, un, gd, cnn, cnm, cig, cic, cmo, a, ccd, cl, outer, A₀, base, h₀, L, m, s, Q, E) he hde hRL hnl hn hxs hrs hok hx hl hns B F X N T C1 C2 rfl
end Lw
end
example : True := by k_with_none; w_top off; trivial
section
open PySem PySem.W PyProof.Rows
namespace Lw
example : True := by
  k_with_none
  k_with "omega" => ((fail_if_success (fail_if_success (omega (config := {})))); first | lia | omega (config := {}))
  k_with "callWith ref" => ((k_here; k_dflt (refine' callWith_K ?kAw90 ?kBw90 ?_; (case kAw90 => k_asm); (case kBw90 => k_is); k_whole)))
  k_with "eval Name" => ((k_here; (fail_if_success (with_reducible show wpAny _ _ (eval (Expr.Name _ _) (compEnvC _ _ _ _)) _ _ _)); k_dflt (first | (refine' nameX_L ?Fw91 ?vw91 ?_ ?aw91 ?bw91; (case bw91 => rfl); (case Fw91 => k_asm); (case aw91 => rfl); (case vw91 => rfl); k_whole) | (refine' nameX_C ?Nw92 ?cw92 ?mw92 ?dw92 ?_ ?aw92 ?bw92; (case bw92 => rfl); (case aw92 => rfl); (case Nw92 => k_asm); (case cw92 => rfl); (case mw92 => k_mem); (case dw92 => k_asm); k_whole) | (refine' nameX_K ?Fw93 ?Xw93 ?Tw93 ?ew93 ?_ ?aw93 ?bw93; (case bw93 => rfl); (case Fw93 => k_asm); (case Xw93 => k_asm); (case Tw93 => k_asm); (case aw93 => rfl); (case ew93 => k_is); k_whole) | (refine' nameX_B ?Fw94 ?Xw94 ?Tw94 ?ew94 ?vw94 ?nw94 ?_ ?aw94 ?bw94; (case bw94 => rfl); (case Fw94 => k_asm); (case Xw94 => k_asm); (case Tw94 => k_asm); (case aw94 => rfl); (case ew94 => k_is); (case vw94 => boot_fast); (case nw94 => decide); k_whole))))
  k_with "execs cons" => ((k_here; refine execs_G ?_; intro G9w hG9w))
  k_with "Go" => (((try dsimp only); first | (refine go_next_S (by with_reducible assumption) ?_; intro tSw) | refine go_ret (by with_reducible assumption) ?_ | refine go_cont (by with_reducible assumption) ?_ | refine go_brk (by with_reducible assumption) ?_))
  k_with "k_ne" => ((with_reducible first | assumption | exact Ne.symm (by assumption) | exact Nat.ne_of_lt (by assumption) | exact Ne.symm (Nat.ne_of_lt (by assumption)) | fail "k_ne"))
  k_with "ktr_room" => (first | exact room_a (by with_reducible assumption) rfl | exact room_b (by with_reducible assumption) rfl | exact room_c (by with_reducible assumption) rfl | fail "room")
  k_with "ktr_units" => (first | exact room_a (by with_reducible assumption) rfl | exact room_b (by with_reducible assumption) rfl | exact room_c (by with_reducible assumption) rfl | fail "room")
  k_with "k_room" => (ktr_room)
  k_with "k_all" => (first | with_reducible assumption | exact all_gt (by assumption) (by ((try dsimp only); omega)))
  k_with "k_all" => (exact all_gtT (by assumption) (by ((try dsimp only); omega)))
  k_with "k_mem" => (assumption)
  trivial
theorem item_val {prog : Program} {w : World} {A : Around} {E : Value → Shared → Prop} {s : Shared} {h₀ : Heap} {L : Addr} {news : List (Addr × Obj)} {l : Addr} {vs : List Value} {c j : Nat} {k : Int} {t : Tok} {v : Value} {value slice : PySem.Expr} {Q : Value → Shared → Prop} (N : News h₀ L s.heap news) (hm : (l, ({ cls := .type "list", data := .seq vs.toArray c } : Obj)) ∈ news) (hn : vs.length ≤ 5000) (hj : PlaceOf k vs.length j) (hv : vs[j]? = some v)
    (h : Q v s)
    (hs : subscripted slice false (.ref l) (.int k t) = operate [.ref l, .int k t] (getItem (.ref l) (.int k t)) := by with_unfolding_all rfl) :
    wpAny (model prog w) A (subscriptTail value slice (.ref l) (.int k t)) Q E s := by
  have ho := (N _ hm).1
  have hl : s.heap.IsList l vs.toArray := ⟨_, ho, rfl, c, rfl⟩
  exact tail_any hl.typeIs slot_list_getitem.lookup (getItem_seq ho (by simpa using hn) (by simpa using hj) (by simpa using hv) h) hs
noncomputable def ItemIs (vs : List Value) (k : Int) (v : Value) : Prop := vs.length ≤ 5000 ∧ ∃ j, PlaceOf k vs.length j ∧ vs[j]? = some v
theorem item_val' {prog : Program} {w : World} {A : Around} {E : Value → Shared → Prop} {s : Shared} {h₀ : Heap} {L : Addr} {news : List (Addr × Obj)} {l : Addr} {vs : List Value} {c : Nat} {k : Int} {t : Tok} {v : Value} {value slice : PySem.Expr} {Q : Value → Shared → Prop} (N : News h₀ L s.heap news) (hm : (l, ({ cls := .type "list", data := .seq vs.toArray c } : Obj)) ∈ news) (hi : ItemIs vs k v) (h : Q v s)
    (hs : subscripted slice false (.ref l) (.int k t) = operate [.ref l, .int k t] (getItem (.ref l) (.int k t)) := by with_unfolding_all rfl) :
    wpAny (model prog w) A (subscriptTail value slice (.ref l) (.int k t)) Q E s := item_val N hm hi.1 hi.2.choose_spec.1 hi.2.choose_spec.2 h hs
noncomputable def CutN (R : Value → Prop) (h₀ : Heap) (L : Addr) (m : Str → Option Value) (news : List (Addr × Obj)) (x : Str) (s : Shared) (fl : Flow) (s' : Shared) : Prop :=
  fl = .next ∧ ∃ v h' tk, R v ∧ s' = { s with heap := h', toks := tk } ∧ Fr h₀ L h' (fun z => if z = x then some v else m z) ∧ News h₀ L h' news
theorem cut_stmt {M : Model} {A : Around} {E : Value → Shared → Prop} {s : Shared} {t : Sem Flow} {Q : Flow → Shared → Prop} (R : Value → Prop) (h₀ : Heap) (L : Addr) (m : Str → Option Value) (news : List (Addr × Obj)) (x : Str) (h1 : wpAny M A t (CutN R h₀ L m news x s) E s)
    (h2 : ∀ v h' tk, R v → Fr h₀ L h' (fun z => if z = x then some v else m z) → News h₀ L h' news → Q .next { s with heap := h', toks := tk }) : wpAny M A t Q E s :=
  wpAny_mono h1 (fun fl s' ⟨e1, v, h', tk, hr, e2, F', N'⟩ => e1 ▸ e2 ▸ h2 v h' tk hr F' N') fun _ _ y => y
example : True := by
  k_with "eval ListComp" => ((k_here; k_dflt (refine ListComp_W (F₀ := by k_asm) (by rfl) (by decide) (by rfl) (by decide) (by rfl) ?_)))
  k_with "eval Name" => ((k_here; (with_reducible show wpAny _ _ (eval (Expr.Name _ _) (compEnvC _ _ _ _)) _ _ _); k_dflt (refine ld_cell (by k_asm) (by rfl) (by k_mem) (by assumption) ?_)))
  k_with "exec Assign cons ListComp" => ((k_here; k_dflt (refine Assign_ListComp_TW (F₀ := by k_asm) (by rfl) (by with_unfolding_all rfl) (by with_unfolding_all rfl) (by decide) (by rfl) (by decide) (by rfl) (by rfl) (by rfl) ?_)))
  k_with "subscriptTail" => ((k_here; (with_reducible show wpAny _ _ (subscriptTail _ _ (Value.ref _) (Value.int _ _)) _ _ _); k_dflt (refine item_val' (by k_asm) (by k_mem) (by with_reducible assumption) ?_)))
  k_with "exec Assign cons IfExp" => ((k_here; (fail_if_success (with_reducible show wpAny _ _ _ (CutN _ _ _ _ _ _ _) _ _)); refine stopAt ?_))
  k_with "truthy ref" => ((k_here; k_dflt (refine wpAny_truthy_list (News.isList (by k_asm) (by k_mem)) (by simp only [List.size_toArray]; omega) ?_)))
  k_with "exec For Name Call cons nil" => ((k_here; k_dflt (refine For_S ?_)))
  trivial
structure DI where
  j : Int
  tj : Tok
  jn : Nat
  v : Value
  tv : Bool
  row : Addr
  rc : Nat
  rvs : List Value
  rns : List Int
noncomputable def DIn (prog : Program) (w : World) (news : List (Addr × Obj)) (vv : List Value) (rows : List Addr) (n : Nat) (d : DI) : Prop :=
  PlaceOf d.j 5 d.jn ∧ vv[d.jn]? = some d.v ∧ rows[d.jn]? = some d.row ∧ (d.row, ({ cls := .type "list", data := .seq d.rvs.toArray d.rc } : Obj)) ∈ news ∧ IntsAre d.rvs d.rns ∧ d.rns.length = n ∧ TruthV prog w d.v d.tv news ∧ okV d.v = true
noncomputable def dueV (l : List (Value × Bool × Int)) (M : Int) : Value :=
  if M < 0 then .bool true else match l.filter (fun e => decide (e.2.2 = M) && e.2.1) with
    | e :: _ => e.1
    | [] => match (l.filter fun e => decide (e.2.2 = M)).getLast? with | some e => e.1 | none => .none
noncomputable def DI.at (k : Nat) (d : DI) : Value × Bool × Int := (d.v, d.tv, d.rns.getD k 0)
noncomputable def DueVal (l : List (Value × Bool × Int)) (v : Value) : Prop := ∃ M, M ∈ l.map (·.2.2) ∧ (∀ a ∈ l.map (·.2.2), a ≤ M) ∧ v = dueV l M
inductive DueIs (nx : List (Addr × Obj)) (ds : List DI) (k : Nat) (nm : Str) (t : Tok) (T : Addr) : Prop
  | mk (v : Value) (Lk : Addr) (Us : List Addr) (c : Nat) (zz1 : DueVal (ds.map (DI.at k)) v) (zz2 : (T, ({ cls := .type "tuple", data := .seq #[v, .bool (isTrueV v), .ref Lk] } : Obj)) ∈ nx) (zz3 : (Lk, ({ cls := .type "list", data := .seq (Us.map Value.ref).toArray c } : Obj)) ∈ nx) (zz4 : Us.length = ds.length) (zz5 : ∀ (i : Nat) (d : DI) (U : Addr), ds[i]? = some d → Us[i]? = some U → (U, ({ cls := .type "tuple", data := .seq #[.int d.j d.tj, .str nm t] } : Obj)) ∈ nx) : DueIs nx ds k nm t T
inductive DueJ (g : Heap) (m₀ : Str → Option Value) (AL cF cK : Addr) (tl : List (Addr × Obj)) (ds : List DI) (ls : List (Str × Tok)) (i : Nat) (h₀ : Heap) (m : Str → Option Value) (nx : List (Addr × Obj)) : Prop
  | mk (zz1 : h₀ = g) (Ts : List Addr) (own : List (Addr × Obj)) (c : Nat) (oF oK : Obj) (vF vK : Option Value) (uo : Str → Option Value) (zz2 : m = (fun z => if [Str.ofString "best", Str.ofString "sure", Str.ofString "says"].contains z then uo z else m₀ z)) (zz3 : nx = (AL, ({ cls := .type "list", data := .seq (Ts.map Value.ref).toArray c } : Obj)) :: (cF, oF) :: (cK, oK) :: (own ++ tl)) (zz4 : oF.data = .cell vF) (zz5 : oK.data = .cell vK) (zz6 : (∀ p ∈ own, p.1 ≠ AL ∧ p.1 ≠ cF ∧ p.1 ≠ cK)) (zz7 : Ts.length = i) (zz8 : ∀ (k : Nat) (q : Str × Tok) (T : Addr), ls[k]? = some q → Ts[k]? = some T → DueIs own ds k q.1 q.2 T) : DueJ g m₀ AL cF cK tl ds ls i h₀ m nx
noncomputable abbrev dueTl {g h : Heap} {L : Addr} {p0 p1 p2 : Addr × Obj} {l : List (Addr × Obj)} (_ : News g L h (p0 :: p1 :: p2 :: l)) : List (Addr × Obj) := l
noncomputable abbrev dueF0 {g h : Heap} {L : Addr} {p0 p1 p2 : Addr × Obj} {l : List (Addr × Obj)} (_ : News g L h (p0 :: p1 :: p2 :: l)) : Addr := p1.1
noncomputable abbrev dueK0 {g h : Heap} {L : Addr} {p0 p1 p2 : Addr × Obj} {l : List (Addr × Obj)} (_ : News g L h (p0 :: p1 :: p2 :: l)) : Addr := p2.1
theorem due_item {ds : List DI} {i : Nat} {v : Value} (h : (ds.map fun d => Value.int d.j d.tj).toArray[i]? = some v) : ∃ d, ds[i]? = some d ∧ v = .int d.j d.tj := by
  simp only [List.getElem?_toArray, List.getElem?_map, Option.map_eq_some_iff] at h
  obtain ⟨q, h1, h2⟩ := h
  exact ⟨q, h1, h2.symm⟩
theorem int_at {vs : List Value} {ns : List Int} (h : IntsAre vs ns) {i : Nat} (hi : i < ns.length) : ∃ u, vs[i]? = some (.int (ns.getD i 0) u) := by
  obtain ⟨u, e⟩ := h.get i _ (List.getElem?_eq_getElem hi)
  exact ⟨u, by rw [e]; simp [List.getD_eq_getElem?_getD, hi]⟩
theorem row_at {rows : List Addr} {j : Nat} {a : Addr} (h : rows[j]? = some a) : (rows.map Value.ref)[j]? = some (.ref a) := by rw [List.getElem?_map, h]; rfl
theorem due_ints {ds : List DI} {i : Nat} {ys : List Value} (hl : ys.length = ds.length) (h : ∀ (i' : Nat) (y : Value), ys[i']? = some y → ∃ d t, ds[i']? = some d ∧ y = .int (d.rns.getD i 0) t) : IntsAre ys ((ds.map (DI.at i)).map (·.2.2)) :=
  ints_of (by simp [hl]) fun i' v hv => by
    obtain ⟨d, t, h1, rfl⟩ := h i' v hv
    exact ⟨_, t, by simp [h1, DI.at], rfl⟩
theorem news_tail {g h : Heap} {L : Addr} {a : Addr × Obj} {l : List (Addr × Obj)} (N : News g L h (a :: l)) : News g L h l := fun p hp => N p (.tail _ hp)
theorem off1_mem {D : Addr} : ∀ {l : List (Addr × Obj)}, LCg.Off1 D l → ∀ p ∈ l, p.1 ≠ D
  | [], _, p, hp => nomatch hp
  | a :: l, h, p, hp => by
    rcases List.mem_cons.mp hp with rfl | hp
    · exact h.1
    · exact off1_mem h.2 p hp
theorem filt_take {α : Type} {ds : List α} {p : α → Bool} {j : Nat} {d : α} (h : ds[j]? = some d) : (ds.take (j + 1)).filter p = (ds.take j).filter p ++ (if p d = true then [d] else []) := by
  have : ds.take (j + 1) = ds.take j ++ [d] := by rw [List.take_add_one, h]; rfl
  rw [this, List.filter_append]
  cases c : p d <;> simp [c]
noncomputable abbrev nwAll {g h : Heap} {L : Addr} {l : List (Addr × Obj)} (_ : News g L h l) : List (Addr × Obj) := l
theorem mem_at3 {g h : Heap} {L : Addr} {a b c d : Addr × Obj} {l : List (Addr × Obj)} (_ : News g L h (a :: b :: c :: d :: l)) : d ∈ a :: b :: c :: d :: l := .tail _ (.tail _ (.tail _ (.head _)))
theorem apart_obj {g h : Heap} {L a b : Addr} {o o' : Obj} {l : List (Addr × Obj)} (N : News g L h l) (h1 : (a, o) ∈ l) (h2 : (b, o') ∈ l) (hc : o ≠ o') : @Ne Nat a b := fun e => by
  have e : a = b := e
  subst e
  have q1 := (N _ h1).1
  have q2 := (N _ h2).1
  rw [q1] at q2
  exact hc (Option.some.inj q2)
theorem cell_seq {o : Obj} {v : Option Value} {vs : Array Value} {n : Nat} (h : o.data = .cell v) : o.data ≠ .seq vs n := fun e => by rw [h] at e; cases e
theorem due_note {ds : List DI} {i' : Nat} {d : DI} {U : Addr} {q : Str × Tok} {Us : List Addr} {own2 BB R2 : List (Addr × Obj)} (hR : R2 = own2 ++ BB) (h1 : ∀ p ∈ own2, p.2.cls = .type "tuple" ∧ ∃ vs n, p.2.data = .seq vs n) (h2 : Us.length = i')
    (h3 : ∀ (k : Nat) (d : DI) (U : Addr), ds[k]? = some d → Us[k]? = some U → (U, ({ cls := .type "tuple", data := .seq #[.int d.j d.tj, .str q.1 q.2] } : Obj)) ∈ own2) (hd : ds[i']? = some d) :
    ∃ (Us' : List Addr) (own2' : List (Addr × Obj)), Us.map Value.ref ++ [.ref U] = Us'.map Value.ref ∧ (U, ({ cls := .type "tuple", data := .seq #[.int d.j d.tj, .str q.1 q.2] } : Obj)) :: R2 = own2' ++ BB ∧ (∀ p ∈ own2', p.2.cls = .type "tuple" ∧ ∃ vs n, p.2.data = .seq vs n) ∧ Us'.length = i' + 1 ∧
      ∀ (k : Nat) (d : DI) (U : Addr), ds[k]? = some d → Us'[k]? = some U → (U, ({ cls := .type "tuple", data := .seq #[.int d.j d.tj, .str q.1 q.2] } : Obj)) ∈ own2' := by
  refine ⟨Us ++ [U], (U, ({ cls := .type "tuple", data := .seq #[.int d.j d.tj, .str q.1 q.2] } : Obj)) :: own2, by simp, by rw [hR]; rfl, fun p hp => ?_, by simp [h2], fun k e V he hV => ?_⟩
  · rcases List.mem_cons.mp hp with rfl | hp
    · exact ⟨rfl, _, _, rfl⟩
    · exact h1 p hp
  · by_cases c : k < i'
    · rw [List.getElem?_append_left (by omega)] at hV
      exact .tail _ (h3 k e V he hV)
    · rw [List.getElem?_append_right (by omega)] at hV
      have : k - Us.length = 0 := by
        have := (List.getElem?_eq_some_iff.mp hV).1
        simp at this
        omega
      rw [this] at hV
      simp at hV
      subst hV
      have hk : k = i' := by omega
      subst hk
      rw [hd] at he
      cases he
      exact .head _
theorem due_mid {g h : Heap} {L : Addr} {d a b c e : Addr × Obj} {own2 R R3 : List (Addr × Obj)} (N : News g L h (d :: (own2 ++ a :: b :: c :: e :: R))) (hR : R3 = own2 ++ R) : News g L h (d :: a :: b :: c :: e :: R3) := KStt.news_of N fun p hp => by
  subst hR
  simp only [List.mem_cons, List.mem_append] at hp ⊢
  grind
theorem due_turn {g h : Heap} {L I AL cF cK T D : Addr} {oI oF oK : Obj} {vF vK : Option Value} {m' m₀ : Str → Option Value} {R R3 own own2 tl : List (Addr × Obj)} {ds : List DI} {ls : List (Str × Tok)} {q : Str × Tok} {v : Value} {i c' cD : Nat} {Ts Us : List Addr} {Q : Flow → Shared → Prop} {s : Shared} {tk : Tok}
    (F : Fr g L h m') (N : News g L h ((T, ({ cls := .type "tuple", data := .seq #[v, .bool (isTrueV v), .ref D] } : Obj)) :: (D, ({ cls := .type "list", data := .seq (Us.map Value.ref).toArray cD } : Obj)) :: (I, oI) ::
      (AL, ({ cls := .type "list", data := .seq ((Ts.map Value.ref).toArray.push (.ref T)) c' } : Obj)) :: (cF, oF) :: (cK, oK) :: R3)) (hq : ls[i]? = some q) (hv : DueVal (ds.map (DI.at i)) v) (hR : R = own ++ tl) (hR3 : R3 = own2 ++ R) (how : ∀ p ∈ own, p.1 ≠ AL ∧ p.1 ≠ cF ∧ p.1 ≠ cK) (hl : Ts.length = i)
    (hTs : ∀ (k : Nat) (q : Str × Tok) (T : Addr), ls[k]? = some q → Ts[k]? = some T → DueIs own ds k q.1 q.2 T) (ho2 : Us.length = ds.length) (ho3 : ∀ (k : Nat) (d : DI) (U : Addr), ds[k]? = some d → Us[k]? = some U → (U, ({ cls := .type "tuple", data := .seq #[.int d.j d.tj, .str q.1 q.2] } : Obj)) ∈ own2)
    (l9 : @LT.lt Nat instLTNat D T ∧ @LT.lt Nat instLTNat I T ∧ @LT.lt Nat instLTNat AL T ∧ @LT.lt Nat instLTNat cF T ∧ @LT.lt Nat instLTNat cK T ∧ AllLt T R3) (dD : @Ne Nat I D ∧ @Ne Nat AL D ∧ @Ne Nat cF D ∧ @Ne Nat cK D) (hRI : ∀ p ∈ R, p.1 ≠ I) (ha : ∀ p ∈ own2, @Ne Nat p.1 I ∧ @Ne Nat p.1 AL ∧ @Ne Nat p.1 cF ∧ @Ne Nat p.1 cK)
    (dF : oF.data = .cell vF) (dK : oK.data = .cell vK) (hIA : @Ne Nat AL I) (hIF : @Ne Nat cF I) (hIK : @Ne Nat cK I) (hm : ∀ z, [Str.ofString "best", Str.ofString "sure", Str.ofString "says"].contains z = false → m' z = m₀ z) : TurnPost L I oI (DueJ g m₀ AL cF cK tl ds ls (i + 1)) Q s .next { s with heap := h, toks := tk } := by
  have e1 : T ≠ I := Ne.symm (Nat.ne_of_lt l9.2.1)
  have e2 : T ≠ AL := Ne.symm (Nat.ne_of_lt l9.2.2.1)
  have e3 : T ≠ cF := Ne.symm (Nat.ne_of_lt l9.2.2.2.1)
  have e4 : T ≠ cK := Ne.symm (Nat.ne_of_lt l9.2.2.2.2.1)
  refine Back.intro F N (nx := (AL, ({ cls := .type "list", data := .seq ((Ts ++ [T]).map Value.ref).toArray c' } : Obj)) :: (cF, oF) :: (cK, oK) :: (((T, ({ cls := .type "tuple", data := .seq #[v, .bool (isTrueV v), .ref D] } : Obj)) :: (D, ({ cls := .type "list", data := .seq (Us.map Value.ref).toArray cD } : Obj)) :: (own2 ++ own)) ++ tl))
    (fun p hp => ?_) (fun p hp => ?_) ⟨rfl, Ts ++ [T], _, c', oF, oK, vF, vK, m', ?_, rfl, dF, dK, fun p hp => ?_, by simp [hl], fun k r T' hk hT' => ?_⟩
  · have e : ((Ts ++ [T]).map Value.ref).toArray = (Ts.map Value.ref).toArray.push (.ref T) := by simp
    rw [e] at hp
    subst hR3 hR
    simp only [List.mem_cons, List.mem_append, List.cons_append] at hp ⊢
    grind
  · simp only [List.mem_cons, List.mem_append, List.cons_append] at hp
    rcases hp with rfl | rfl | rfl | rfl | rfl | (hp | hp) | hp
    · exact hIA
    · exact hIF
    · exact hIK
    · exact e1
    · exact Ne.symm dD.1
    · exact (ha p hp).1
    · exact hRI p (hR ▸ List.mem_append_left _ hp)
    · exact hRI p (hR ▸ List.mem_append_right _ hp)
  · funext z
    by_cases c : [Str.ofString "best", Str.ofString "sure", Str.ofString "says"].contains z = true
    · rw [if_pos c]
    · rw [if_neg c]
      exact hm z (by simpa using c)
  · simp only [List.mem_cons, List.mem_append] at hp
    rcases hp with rfl | rfl | hp | hp
    · exact ⟨e2, e3, e4⟩
    · exact ⟨Ne.symm dD.2.1, Ne.symm dD.2.2.1, Ne.symm dD.2.2.2⟩
    · exact (ha p hp).2
    · exact how p hp
  · by_cases c : k < i
    · rw [List.getElem?_append_left (by omega)] at hT'
      obtain ⟨v', Lk', Us', cc, a0, a1, a2, a3, a4⟩ := hTs k r T' hk hT'
      have up : ∀ p ∈ own, p ∈ ((T, ({ cls := .type "tuple", data := .seq #[v, .bool (isTrueV v), .ref D] } : Obj)) :: (D, ({ cls := .type "list", data := .seq (Us.map Value.ref).toArray cD } : Obj)) :: (own2 ++ own)) := fun p hp => .tail _ (.tail _ (List.mem_append_right _ hp))
      exact ⟨v', Lk', Us', cc, a0, up _ a1, up _ a2, a3, fun k q T h1 h2 => up _ (a4 k q T h1 h2)⟩
    · rw [List.getElem?_append_right (by omega)] at hT'
      have hk2 : k - Ts.length = 0 := by
        have := (List.getElem?_eq_some_iff.mp hT').1
        simp at this
        omega
      rw [hk2] at hT'
      simp at hT'
      subst hT'
      have hk3 : k = i := by omega
      subst hk3
      rw [hq] at hk
      cases hk
      exact ⟨v, D, Us, cD, hv, .head _, .tail _ (.head _), ho2, fun k d U h1 h2 => .tail _ (.tail _ (List.mem_append_left _ (ho3 k d U h1 h2)))⟩
theorem dueV_of {ds FS SS : List DI} {i : Nat} {M : Int} (hFS : FS = ds.filter (fun d => decide (d.rns.getD i 0 = M))) (hSS : SS = FS.filter (·.tv)) (hM : ¬ M < 0) :
    dueV (ds.map (DI.at i)) M = match SS with | e :: _ => e.v | [] => match FS.getLast? with | some e => e.v | none => .none := by
  have e1 : ((ds.map (DI.at i)).filter fun e => decide (e.2.2 = M) && e.2.1) = SS.map (DI.at i) := by
    rw [List.filter_map, hSS, hFS, List.filter_filter]
    congr 1
    refine List.filter_congr fun d _ => ?_
    simp only [Function.comp, DI.at]
    exact Bool.and_comm _ _
  have e2 : ((ds.map (DI.at i)).filter fun e => decide (e.2.2 = M)) = FS.map (DI.at i) := by
    rw [List.filter_map, hFS]
    rfl
  unfold dueV
  rw [if_neg hM, e1, e2]
  cases SS with
  | cons e r => rfl
  | nil =>
    simp only [List.map_nil, List.getLast?_map]
    cases FS.getLast? <;> rfl
theorem due_last {ds FS : List DI} {i : Nat} {M : Int} (hFS : FS = ds.filter (fun d => decide (d.rns.getD i 0 = M))) (hM : M ∈ (ds.map (DI.at i)).map (·.2.2)) : ∃ e, FS.getLast? = some e ∧ (FS.length ≤ 10 → ItemIs (FS.map (·.v)) (-1) e.v) := by
  have hne : FS ≠ [] := fun h => by
    simp only [List.map_map, List.mem_map] at hM
    obtain ⟨d, hd, e⟩ := hM
    have : d ∈ FS := by rw [hFS]; exact List.mem_filter.mpr ⟨hd, by simpa [DI.at] using e⟩
    rw [h] at this
    exact nomatch this
  have hl := List.length_pos_iff.mpr hne
  refine ⟨FS.getLast hne, List.getLast?_eq_some_getLast hne, fun h10 => ⟨by rw [List.length_map]; omega, FS.length - 1, .inr ⟨by decide, by rw [List.length_map]; omega, by rw [List.length_map]; omega⟩, ?_⟩⟩
  rw [List.getElem?_map, ← List.getLast?_eq_getElem?, List.getLast?_eq_some_getLast hne]
  rfl
inductive DueOut (news : List (Addr × Obj)) (ds : List DI) (ls : List (Str × Tok)) (v : Value) (nw : List (Addr × Obj)) : Prop
  | mk (AL : Addr) (Ts : List Addr) (own : List (Addr × Obj)) (c : Nat) (zz1 : v = .ref AL) (zz2 : nw = (AL, ({ cls := .type "list", data := .seq (Ts.map Value.ref).toArray c } : Obj)) :: (own ++ news)) (zz3 : (∀ p ∈ news, p.1 ≠ AL)) (zz4 : (∀ p ∈ own, p.1 ≠ AL)) (zz5 : Ts.length = ls.length) (zz6 : ∀ (k : Nat) (q : Str × Tok) (T : Addr), ls[k]? = some q → Ts[k]? = some T → DueIs own ds k q.1 q.2 T) : DueOut news ds ls v nw
namespace Dc
noncomputable def S0 (prog : Program) (w : World) (news : List (Addr × Obj)) (oa va ra na : Addr) (c1 c2 c3 c4 : Nat) (ds : List DI) (vv : List Value) (rows : List Addr) (ls : List (Str × Tok)) (p : Program) (loose : List Str) (mean : ExcName → Option Value) (mg : Str → Option Value) (mb : Str → Option Value) (dp : Nat) (un : Nat) (gd : Option (List Code)) (cnn : Str) (cnm : List (Str × NameKind)) (cig : Bool) (cic : Bool) (cmo : List (Str × Const)) (a : Addr) (ccd : Value) (cl : List (Str × Addr)) (outer : List Env) (A₀ : Around) (base : Heap) (h₀ : Heap) (L : Addr) (m : Str → Option Value) (s : Shared) (Q : Value → Shared → Prop) (E : Value → Shared → Prop) : Prop :=
  (oa, ({ cls := .type "list", data := .seq (ds.map fun d => Value.int d.j d.tj).toArray c1 } : Obj)) ∈ news → (va, ({ cls := .type "list", data := .seq vv.toArray c2 } : Obj)) ∈ news → (ra, ({ cls := .type "list", data := .seq (rows.map Value.ref).toArray c3 } : Obj)) ∈ news → (na, ({ cls := .type "list", data := .seq (strValues ls).toArray c4 } : Obj)) ∈ news → vv.length = 5 → rows.length = 5 → (∀ d ∈ ds, DIn prog w news vv rows ls.length d) → ls.length ≤ 10 → ds.length ≤ 10 → 0 < ds.length → 
  ComesNv prog w 20 300 180 news [.ref oa, .ref va, .ref ra, .ref na] (DueOut news ds ls) p loose mean mg mb dp un gd cnn ⟨.function, cnm, cig, cic, cmo⟩ a ccd cl outer A₀ base h₀ L m s Q E
noncomputable def P0 (x : Program × World × (List (Addr × Obj)) × Addr × Addr × Addr × Addr × Nat × Nat × Nat × Nat × List DI × List Value × List Addr × (List (Str × Tok)) × Program × List Str × (ExcName → Option Value) × (Str → Option Value) × (Str → Option Value) × Nat × Nat × Option (List Code) × Str × (List (Str × NameKind)) × Bool × Bool × (List (Str × Const)) × Addr × Value × (List (Str × Addr)) × List Env × Around × Heap × Heap × Addr × (Str → Option Value) × Shared × (Value → Shared → Prop) × (Value → Shared → Prop)) : Prop := S0 x.1 x.2.1 x.2.2.1 x.2.2.2.1 x.2.2.2.2.1 x.2.2.2.2.2.1 x.2.2.2.2.2.2.1 x.2.2.2.2.2.2.2.1 x.2.2.2.2.2.2.2.2.1 x.2.2.2.2.2.2.2.2.2.1 x.2.2.2.2.2.2.2.2.2.2.1 x.2.2.2.2.2.2.2.2.2.2.2.1 x.2.2.2.2.2.2.2.2.2.2.2.2.1 x.2.2.2.2.2.2.2.2.2.2.2.2.2.1 x.2.2.2.2.2.2.2.2.2.2.2.2.2.2.1 x.2.2.2.2.2.2.2.2.2.2.2.2.2.2.2.1 x.2.2.2.2.2.2.2.2.2.2.2.2.2.2.2.2.1 x.2.2.2.2.2.2.2.2.2.2.2.2.2.2.2.2.2.1 x.2.2.2.2.2.2.2.2.2.2.2.2.2.2.2.2.2.2.1 x.2.2.2.2.2.2.2.2.2.2.2.2.2.2.2.2.2.2.2.1 x.2.2.2.2.2.2.2.2.2.2.2.2.2.2.2.2.2.2.2.2.1 x.2.2.2.2.2.2.2.2.2.2.2.2.2.2.2.2.2.2.2.2.2.1 x.2.2.2.2.2.2.2.2.2.2.2.2.2.2.2.2.2.2.2.2.2.2.1 x.2.2.2.2.2.2.2.2.2.2.2.2.2.2.2.2.2.2.2.2.2.2.2.1 x.2.2.2.2.2.2.2.2.2.2.2.2.2.2.2.2.2.2.2.2.2.2.2.2.1 x.2.2.2.2.2.2.2.2.2.2.2.2.2.2.2.2.2.2.2.2.2.2.2.2.2.1 x.2.2.2.2.2.2.2.2.2.2.2.2.2.2.2.2.2.2.2.2.2.2.2.2.2.2.1 x.2.2.2.2.2.2.2.2.2.2.2.2.2.2.2.2.2.2.2.2.2.2.2.2.2.2.2.1 x.2.2.2.2.2.2.2.2.2.2.2.2.2.2.2.2.2.2.2.2.2.2.2.2.2.2.2.2.1 x.2.2.2.2.2.2.2.2.2.2.2.2.2.2.2.2.2.2.2.2.2.2.2.2.2.2.2.2.2.1 x.2.2.2.2.2.2.2.2.2.2.2.2.2.2.2.2.2.2.2.2.2.2.2.2.2.2.2.2.2.2.1 x.2.2.2.2.2.2.2.2.2.2.2.2.2.2.2.2.2.2.2.2.2.2.2.2.2.2.2.2.2.2.2.1 x.2.2.2.2.2.2.2.2.2.2.2.2.2.2.2.2.2.2.2.2.2.2.2.2.2.2.2.2.2.2.2.2.1 x.2.2.2.2.2.2.2.2.2.2.2.2.2.2.2.2.2.2.2.2.2.2.2.2.2.2.2.2.2.2.2.2.2.1 x.2.2.2.2.2.2.2.2.2.2.2.2.2.2.2.2.2.2.2.2.2.2.2.2.2.2.2.2.2.2.2.2.2.2.1 x.2.2.2.2.2.2.2.2.2.2.2.2.2.2.2.2.2.2.2.2.2.2.2.2.2.2.2.2.2.2.2.2.2.2.2.1 x.2.2.2.2.2.2.2.2.2.2.2.2.2.2.2.2.2.2.2.2.2.2.2.2.2.2.2.2.2.2.2.2.2.2.2.2.1 x.2.2.2.2.2.2.2.2.2.2.2.2.2.2.2.2.2.2.2.2.2.2.2.2.2.2.2.2.2.2.2.2.2.2.2.2.2.1 x.2.2.2.2.2.2.2.2.2.2.2.2.2.2.2.2.2.2.2.2.2.2.2.2.2.2.2.2.2.2.2.2.2.2.2.2.2.2.1 x.2.2.2.2.2.2.2.2.2.2.2.2.2.2.2.2.2.2.2.2.2.2.2.2.2.2.2.2.2.2.2.2.2.2.2.2.2.2.2
noncomputable def k0 : Program × World × (List (Addr × Obj)) × Addr × Addr × Addr × Addr × Nat × Nat × Nat × Nat × List DI × List Value × List Addr × (List (Str × Tok)) × Program × List Str × (ExcName → Option Value) × (Str → Option Value) × (Str → Option Value) × Nat × Nat × Option (List Code) × Str × (List (Str × NameKind)) × Bool × Bool × (List (Str × Const)) × Addr × Value × (List (Str × Addr)) × List Env × Around × Heap × Heap × Addr × (Str → Option Value) × Shared × (Value → Shared → Prop) × (Value → Shared → Prop) := henk (qv, aWorld 1, [], 0, 0, 0, 0, 0, 0, 0, 0, [], [], [], [], qv, [], fun _ => none, fun _ => none, fun _ => none, 0, 0, none, default, [], false, false, [], 0, .none, [], [], hen_a, default, default, 0, fun _ => none, hen_s, fun _ _ => True, fun _ _ => True) P0
@[irreducible] noncomputable def prog : Program := k0.1
@[irreducible] noncomputable def w : World := k0.2.1
@[irreducible] noncomputable def news : List (Addr × Obj) := k0.2.2.1
@[irreducible] noncomputable def oa : Addr := k0.2.2.2.1
@[irreducible] noncomputable def va : Addr := k0.2.2.2.2.1
@[irreducible] noncomputable def ra : Addr := k0.2.2.2.2.2.1
@[irreducible] noncomputable def na : Addr := k0.2.2.2.2.2.2.1
@[irreducible] noncomputable def c1 : Nat := k0.2.2.2.2.2.2.2.1
@[irreducible] noncomputable def c2 : Nat := k0.2.2.2.2.2.2.2.2.1
@[irreducible] noncomputable def c3 : Nat := k0.2.2.2.2.2.2.2.2.2.1
@[irreducible] noncomputable def c4 : Nat := k0.2.2.2.2.2.2.2.2.2.2.1
@[irreducible] noncomputable def ds : List DI := k0.2.2.2.2.2.2.2.2.2.2.2.1
@[irreducible] noncomputable def vv : List Value := k0.2.2.2.2.2.2.2.2.2.2.2.2.1
@[irreducible] noncomputable def rows : List Addr := k0.2.2.2.2.2.2.2.2.2.2.2.2.2.1
@[irreducible] noncomputable def ls : List (Str × Tok) := k0.2.2.2.2.2.2.2.2.2.2.2.2.2.2.1
@[irreducible] noncomputable def p : Program := k0.2.2.2.2.2.2.2.2.2.2.2.2.2.2.2.1
@[irreducible] noncomputable def loose : List Str := k0.2.2.2.2.2.2.2.2.2.2.2.2.2.2.2.2.1
@[irreducible] noncomputable def mean : ExcName → Option Value := k0.2.2.2.2.2.2.2.2.2.2.2.2.2.2.2.2.2.1
@[irreducible] noncomputable def mg : Str → Option Value := k0.2.2.2.2.2.2.2.2.2.2.2.2.2.2.2.2.2.2.1
@[irreducible] noncomputable def mb : Str → Option Value := k0.2.2.2.2.2.2.2.2.2.2.2.2.2.2.2.2.2.2.2.1
@[irreducible] noncomputable def dp : Nat := k0.2.2.2.2.2.2.2.2.2.2.2.2.2.2.2.2.2.2.2.2.1
@[irreducible] noncomputable def un : Nat := k0.2.2.2.2.2.2.2.2.2.2.2.2.2.2.2.2.2.2.2.2.2.1
@[irreducible] noncomputable def gd : Option (List Code) := k0.2.2.2.2.2.2.2.2.2.2.2.2.2.2.2.2.2.2.2.2.2.2.1
@[irreducible] noncomputable def cnn : Str := k0.2.2.2.2.2.2.2.2.2.2.2.2.2.2.2.2.2.2.2.2.2.2.2.1
@[irreducible] noncomputable def cnm : List (Str × NameKind) := k0.2.2.2.2.2.2.2.2.2.2.2.2.2.2.2.2.2.2.2.2.2.2.2.2.1
@[irreducible] noncomputable def cig : Bool := k0.2.2.2.2.2.2.2.2.2.2.2.2.2.2.2.2.2.2.2.2.2.2.2.2.2.1
@[irreducible] noncomputable def cic : Bool := k0.2.2.2.2.2.2.2.2.2.2.2.2.2.2.2.2.2.2.2.2.2.2.2.2.2.2.1
@[irreducible] noncomputable def cmo : List (Str × Const) := k0.2.2.2.2.2.2.2.2.2.2.2.2.2.2.2.2.2.2.2.2.2.2.2.2.2.2.2.1
@[irreducible] noncomputable def a : Addr := k0.2.2.2.2.2.2.2.2.2.2.2.2.2.2.2.2.2.2.2.2.2.2.2.2.2.2.2.2.1
@[irreducible] noncomputable def ccd : Value := k0.2.2.2.2.2.2.2.2.2.2.2.2.2.2.2.2.2.2.2.2.2.2.2.2.2.2.2.2.2.1
@[irreducible] noncomputable def cl : List (Str × Addr) := k0.2.2.2.2.2.2.2.2.2.2.2.2.2.2.2.2.2.2.2.2.2.2.2.2.2.2.2.2.2.2.1
@[irreducible] noncomputable def outer : List Env := k0.2.2.2.2.2.2.2.2.2.2.2.2.2.2.2.2.2.2.2.2.2.2.2.2.2.2.2.2.2.2.2.1
@[irreducible] noncomputable def A₀ : Around := k0.2.2.2.2.2.2.2.2.2.2.2.2.2.2.2.2.2.2.2.2.2.2.2.2.2.2.2.2.2.2.2.2.1
@[irreducible] noncomputable def base : Heap := k0.2.2.2.2.2.2.2.2.2.2.2.2.2.2.2.2.2.2.2.2.2.2.2.2.2.2.2.2.2.2.2.2.2.1
@[irreducible] noncomputable def h₀ : Heap := k0.2.2.2.2.2.2.2.2.2.2.2.2.2.2.2.2.2.2.2.2.2.2.2.2.2.2.2.2.2.2.2.2.2.2.1
@[irreducible] noncomputable def L : Addr := k0.2.2.2.2.2.2.2.2.2.2.2.2.2.2.2.2.2.2.2.2.2.2.2.2.2.2.2.2.2.2.2.2.2.2.2.1
@[irreducible] noncomputable def m : Str → Option Value := k0.2.2.2.2.2.2.2.2.2.2.2.2.2.2.2.2.2.2.2.2.2.2.2.2.2.2.2.2.2.2.2.2.2.2.2.2.1
@[irreducible] noncomputable def s : Shared := k0.2.2.2.2.2.2.2.2.2.2.2.2.2.2.2.2.2.2.2.2.2.2.2.2.2.2.2.2.2.2.2.2.2.2.2.2.2.1
@[irreducible] noncomputable def Q : Value → Shared → Prop := k0.2.2.2.2.2.2.2.2.2.2.2.2.2.2.2.2.2.2.2.2.2.2.2.2.2.2.2.2.2.2.2.2.2.2.2.2.2.2.1
@[irreducible] noncomputable def E : Value → Shared → Prop := k0.2.2.2.2.2.2.2.2.2.2.2.2.2.2.2.2.2.2.2.2.2.2.2.2.2.2.2.2.2.2.2.2.2.2.2.2.2.2.2
theorem main : S0 prog w news oa va ra na c1 c2 c3 c4 ds vv rows ls p loose mean mg mb dp un gd cnn cnm cig cic cmo a ccd cl outer A₀ base h₀ L m s Q E := by
  unfold S0 ComesNv
  intro ho hv hr hn h5 h5r hds hl hd1 hd0 B F X N T C1 C2 hk hd hu hret
  refine wpAny_call ?_
  k_enter
  k_steps
  show wpAny _ _ _ _ _ _
  (k_with "call builtin:len" => (k_here; k_dflt (refine' len_strs ?k1 ?k2 ?k3 ?_); (case k1 => k_asm); (case k2 => k_mem); (case k3 => omega)))
  k_steps
  (with_reducible rename Fr _ _ _ _ => F1; with_reducible rename News _ _ _ _ => N1; with_reducible rename IsRange _ _ _ _ _ _ _ _ => rgX)
  refine wpAny_pyIter_range rgX (small_one (by omega) (by omega) (by omega) (by omega)) ?_
  have lAL := (by assumption : @LT.lt Nat instLTNat _ _ ∧ @LT.lt Nat instLTNat _ _ ∧ @LT.lt Nat instLTNat _ _ ∧ @LT.lt Nat instLTNat _ _ ∧ @LT.lt Nat instLTNat _ _ ∧ AllLt _ news)
  have lnw := (by assumption : ∀ p ∈ news, p.1 < frL F1)
  have hA3 : ∀ p ∈ dueTl N1, @Ne Nat p.1 (nwHead N1) ∧ @Ne Nat p.1 (dueF0 N1) ∧ @Ne Nat p.1 (dueK0 N1) := by
    dsimp only [dueTl, nwHead, dueF0, dueK0, frL] at lnw ⊢
    intro p hp
    rcases List.mem_cons.mp hp with rfl | hp
    · refine ⟨?_, ?_, ?_⟩ <;> (dsimp only; omega)
    rcases List.mem_cons.mp hp with rfl | hp
    · refine ⟨?_, ?_, ?_⟩ <;> (dsimp only; omega)
    rcases List.mem_cons.mp hp with rfl | hp
    · refine ⟨?_, ?_, ?_⟩ <;> (dsimp only; omega)
    have := lnw p hp
    have h2 : @LT.lt Nat instLTNat p.1 _ := allLt_mem lAL.2.2.2.2.2 p hp
    have h3 : @LT.lt Nat instLTNat p.1 _ := this
    refine ⟨?_, ?_, ?_⟩ <;> omega
  have hFK : @Ne Nat (dueF0 N1) (dueK0 N1) ∧ @Ne Nat (nwHead N1) (dueK0 N1) ∧ @Ne Nat (nwHead N1) (dueF0 N1) := by
    dsimp only [nwHead, dueF0, dueK0]
    refine ⟨?_, ?_, ?_⟩ <;> omega
  refine for_led (L := frL F1) (DueJ (frBase F1) (frMap F1) (nwHead N1) (dueF0 N1) (dueK0 N1) (dueTl N1) ds ls) (LCg.range_walks (by rfl) 0 ls.length) (fun o => o.cls = .type "range_iterator") (fun i h st => (by have st2 : h.get? _ = some _ := st; exact ⟨_, st2, rfl⟩)) ?hSt (fun _ => rfl) ?turn ?done (F1.keeps fun _ _ e => Heap.get?_push_of_some _ e) (N1.grown fun _ _ e => Heap.get?_push_of_some _ e) (Ne.symm (Nat.ne_of_lt F1.ns.lt)) (next_is_new F1) (fun p hp => Nat.ne_of_lt (Heap.lt_size (N1 p hp).1)) ?st0 ?start
  case st0 => exact (by have e : Builtin.Range.rangeSize 0 ((ls.length : Nat) : Int) 1 = ((ls.length : Nat) : Int) := (rangeSize_nat 0 _).trans (by simp)
                        show IsRangeIter _ _ _ _ _; rw [e]; simpa using Heap.get?_push_size _ rfl)
  case start => exact ⟨rfl, [], [], _, _, _, _, _, frMap F1, by funext z; rw [ite_self], rfl, by assumption, by assumption, (fun p hp => nomatch hp), rfl, fun k q T h1 h2 => by simp at h2⟩
  case hSt =>
    intro i j h h' o h₀ m nx st e e' F2 N2 hj
    exact LCg.range_st i h h' o nx st e e' F2.keep N2 trivial
  case turn =>
    intro i v oI h₀2 m2 nx2 h2' tk2 E2 hi hv hio F2 N2 off2 hj
    refine hideG ?_
    intro b9 hb9
    rcases hj with ⟨rfl, Ts, own, c, oF, oK, vF, vK, uo, rfl, rfl, hoF, hoK, how, hTl, hTs⟩
    rcases hv with ⟨t0, rfl⟩
    refine hb9 ?_
    clear hb9 b9
    dsimp only [frL, frBase, frMap, nwHead, dueF0, dueK0, dueTl] at F2 N2 off2 how hA3 hFK lnw ⊢
    clear N1 F1
    generalize hR : own ++ _ = R at N2 off2
    have hRo : ∀ p ∈ own, p ∈ R := fun p hp => hR ▸ List.mem_append_left _ hp
    have hRA : ∀ p ∈ R, p.1 ≠ _ := fun p hp => (List.mem_append.mp (hR ▸ hp)).elim (fun hp => (how p hp).1) (fun hp => (hA3 p hp).1)
    have hRF : ∀ p ∈ R, p.1 ≠ _ := fun p hp => (List.mem_append.mp (hR ▸ hp)).elim (fun hp => (how p hp).2.1) (fun hp => (hA3 p hp).2.1)
    have hRK : ∀ p ∈ R, p.1 ≠ _ := fun p hp => (List.mem_append.mp (hR ▸ hp)).elim (fun hp => (how p hp).2.2) (fun hp => (hA3 p hp).2.2)
    have hIA : @Ne Nat _ _ := off2 _ (.head _)
    have hIF : @Ne Nat _ _ := off2 _ (.tail _ (.head _))
    have hIK : @Ne Nat _ _ := off2 _ (.tail _ (.tail _ (.head _)))
    have hRI : ∀ p ∈ R, p.1 ≠ _ := fun p hp => off2 p (.tail _ (.tail _ (.tail _ hp)))
    dsimp only at hIA hIF hIK
    have hm : ∀ q ∈ _, q ∈ R := fun q hq => hR ▸ List.mem_append_right own hq
    have m1 := hm _ (.head _)
    have m2 := hm _ (.tail _ (.head _))
    have m3 := hm _ (.tail _ (.tail _ (.head _)))
    have m4 : ∀ q ∈ news, q ∈ R := fun q hq => hm q (.tail _ (.tail _ (.tail _ hq)))
    have mo := m4 _ ho
    have mv := m4 _ hv
    have mr := m4 _ hr
    have mn := m4 _ hn
    have hIi : PlaceOf (0 + (i : Int)) ls.length i := .inl ⟨by omega, by omega, by omega⟩
    obtain ⟨hFK1, hFK2, hFK3⟩ := hFK
    k_steps
    refine LCg.CompSrc.ledger (by rfl) (by k_asm) (by k_asm) (by k_mem) (by rw [List.size_toArray, List.length_map]; size_fits) ?_
    intro g9
    refine rest_quiet (fun i' y => ∃ d t, ds[i']? = some d ∧ y = .int (d.rns.getD i 0) t) ?_ ?_
    · intro i' v' hi' hP
      refine hideG ?_
      intro b9 hb9
      rcases due_item hP with ⟨d, hd', rfl⟩
      rcases hds d (List.mem_of_getElem? hd') with ⟨z1, z2, z3, z4, z5, z6, z7, z8⟩
      rcases int_at z5 (i := i) (by omega) with ⟨u9, hu9⟩
      refine hb9 ?_
      clear hb9 b9
      have z9 := m4 _ z4
      intro ys I' oI' C' oC' D' m' h' tk' E' hC' hx' F' N' off' ne'
      have y1 : ItemIs (rows.map Value.ref) d.j (.ref d.row) := ⟨by rw [List.length_map]; omega, _, by rw [List.length_map, h5r]; exact z1, row_at z3⟩
      have y2 : ItemIs d.rvs (0 + (i : Int)) (.int (d.rns.getD i 0) u9) := ⟨by rw [z5.length]; omega, i, by rw [z5.length, z6]; exact hIi, hu9⟩
      k_steps
      exact LCg.CompEnd.intro (by assumption) (by assumption) _ (fun p hp => hp) (by assumption) (Or.inr ⟨_, by k_mem, rfl, _, rfl⟩) ⟨rfl, _, _, hd', rfl⟩
    · intro ys hl' hr' D' h' tk' F' N' o1'
      have hys := due_ints (i := i) (by rw [hl', List.size_toArray, List.length_map]) hr'
      have o2 := off1_mem o1'
      have e1 : @Ne Nat _ _ := o2 _ (.head _)
      have e2 : @Ne Nat _ _ := o2 _ (.tail _ (.head _))
      have e3 : @Ne Nat _ _ := o2 _ (.tail _ (.tail _ (.head _)))
      have e4 : @Ne Nat _ _ := o2 _ (.tail _ (.tail _ (.tail _ (.head _))))
      have e5 : ∀ p ∈ R, p.1 ≠ _ := fun p hp => o2 p (.tail _ (.tail _ (.tail _ (.tail _ hp))))
      dsimp only at e1 e2 e3 e4
      k_steps
      with_reducible rename Int => M
      have hM := (⟨by assumption, by assumption⟩ : M ∈ ((ds.map (DI.at i)).map (·.2.2)) ∧ ∀ a ∈ (ds.map (DI.at i)).map (·.2.2), a ≤ M)
      show LCt.CompSrcT _ _ _ _ _ _ _ _ _ _ _ _ _ _ _
      refine LCt.CompSrcT.ledger (by rfl) (by k_asm) (by k_asm) (by k_mem) (by rw [List.size_toArray, List.length_map]; size_fits) ?_
      intro g8
      refine restT_inv (fun j zs => zs = ((ds.take j).filter fun d => decide (d.rns.getD i 0 = M)).map (·.v)) ?_ ?_ _ 0 [] (Nat.zero_add _) (by simp)
      · intro i' v' hi' hP zs hzs I' oI' C' oC' D' m' h' tk' E' hC' hx' F' N' off' ne'
        refine hideG ?_
        intro b9 hb9
        rcases due_item hP with ⟨d, hd', rfl⟩
        rcases hds d (List.mem_of_getElem? hd') with ⟨z1, z2, z3, z4, z5, z6, z7, z8⟩
        rcases int_at z5 (i := i) (by omega) with ⟨u9, hu9⟩
        refine hb9 ?_
        clear hb9 b9
        have z9 := m4 _ z4
        have y1 : ItemIs (rows.map Value.ref) d.j (.ref d.row) := ⟨by rw [List.length_map]; omega, _, by rw [List.length_map, h5r]; exact z1, row_at z3⟩
        have y2 : ItemIs d.rvs (0 + (i : Int)) (.int (d.rns.getD i 0) u9) := ⟨by rw [z5.length]; omega, i, by rw [z5.length, z6]; exact hIi, hu9⟩
        have y3 : ItemIs vv d.j d.v := ⟨by omega, _, by rw [h5]; exact z1, z2⟩
        k_steps
        · refine LCg.CompEnd.intro (by assumption) (by assumption) _ (fun p hp => hp) (by assumption) (Or.inr ⟨_, by k_mem, rfl, _, rfl⟩) ⟨rfl, ?_⟩
          rw [filt_take hd', hzs, if_pos (by simp only [decide_eq_true_eq]; assumption), List.map_append]
          rfl
        · refine LCg.CompEnd.intro (by assumption) (by assumption) _ (fun p hp => hp) (by assumption) (Or.inr ⟨_, by k_mem, rfl, _, rfl⟩) ⟨rfl, ?_⟩
          rw [filt_take hd', hzs, if_neg (by simp only [decide_eq_true_eq]; assumption), List.append_nil]
      · intro zs hzs D2 h' tk' F' N' o1'
        rw [List.take_of_length_le (by rw [List.size_toArray, List.length_map]; exact Nat.le_refl _)] at hzs
        have hFSd : ∀ d ∈ ds.filter (fun d => decide (d.rns.getD i 0 = M)), d ∈ ds ∧ d.rns.getD i 0 = M := fun d hd => ⟨(List.mem_filter.mp hd).1, by simpa using (List.mem_filter.mp hd).2⟩
        have hFSl : (ds.filter fun d => decide (d.rns.getD i 0 = M)).length ≤ 10 := Nat.le_trans (List.length_filter_le _ _) hd1
        refine exR (ds.filter (fun d => decide (d.rns.getD i 0 = M))) fun FS hFS => ?_
        rw [← hFS] at hzs hFSd hFSl
        subst hzs
        k_steps
        show LCt.CompSrcT _ _ _ _ _ _ _ _ _ _ _ _ _ _ _
        refine LCt.CompSrcT.ledger (by rfl) (by k_asm) (by k_asm) (by k_mem) (by rw [List.size_toArray, List.length_map]; size_fits) ?_
        intro g7
        refine restT_inv (fun j zs => zs = ((FS.take j).filter (·.tv)).map (·.v)) ?_ ?_ _ 0 [] (Nat.zero_add _) (by simp)
        · intro i' v' hi' hP zs hzs I' oI' C' oC' D' m' h' tk' E' hC' hx' F' N' off' ne'
          obtain ⟨d, hd', rfl⟩ : ∃ d, FS[i']? = some d ∧ v' = d.v := by
            simp only [List.getElem?_toArray, List.getElem?_map, Option.map_eq_some_iff] at hP
            obtain ⟨q, h1, h2⟩ := hP
            exact ⟨q, h1, h2.symm⟩
          refine hideG ?_
          intro b9 hb9
          rcases hds d (hFSd d (List.mem_of_getElem? hd')).1 with ⟨z1, z2, z3, z4, z5, z6, z7, z8⟩
          refine hb9 ?_
          clear hb9 b9
          (k_with "truthy" => ((with_reducible rename News _ _ _ _ => N9); refine z7 _ _ _ _ _ _ (fun p hp => N9 p (by have := m4 p hp; repeat (first | exact this | apply List.Mem.tail))) ?_; intro tk9; (cases hb9 : d.tv)))
          k_steps
          · refine LCg.CompEnd.intro (by assumption) (by assumption) _ (fun p hp => hp) (by assumption) (Or.inr ⟨_, by k_mem, rfl, _, rfl⟩) ⟨rfl, ?_⟩
            rw [filt_take hd', hzs, if_neg (by rw [hb9]; decide), List.append_nil]
          · refine LCg.CompEnd.intro (by assumption) (by assumption) _ (fun p hp => hp) (by assumption) (Or.inr ⟨_, by k_mem, rfl, _, rfl⟩) ⟨rfl, ?_⟩
            rw [filt_take hd', hzs, if_pos hb9, List.map_append]
            rfl
        · intro zs hzs D3 h' tk' F' N' o3'
          rw [List.take_of_length_le (by rw [List.size_toArray, List.length_map]; exact Nat.le_refl _)] at hzs
          subst hzs
          k_steps
          show wpAny _ _ _ _ _ _
          (with_reducible rename News _ _ _ _ => N7; with_reducible rename Fr _ _ _ _ => F7)
          refine exR (FS.filter (·.tv)) fun SS hSS => ?_
          rw [← hSS] at N7
          refine cut_stmt (fun v => okV v = true ∧ DueVal (ds.map (DI.at i)) v) (frBase F7) (frL F7) (frMap F7) (nwAll N7) (Str.ofString "says") ?_ ?_
          · by_cases hM0 : M < 0
            · k_steps
              exact ⟨rfl, _, _, _, ⟨rfl, M, hM.1, hM.2, by unfold dueV; rw [if_pos hM0]⟩, rfl, by k_asm, by k_asm⟩
            · have hV := dueV_of hFS hSS hM0
              have hok : ∀ d ∈ FS, okV d.v = true := fun d hd => (hds d (hFSd d hd).1).2.2.2.2.2.2.2
              have hokS : ∀ d ∈ SS, okV d.v = true := fun d hd => hok d (List.mem_filter.mp (hSS ▸ hd)).1
              have hSl : SS.length ≤ 10 := Nat.le_trans (hSS ▸ List.length_filter_le _ _) hFSl
              cases SS with
              | nil =>
                obtain ⟨e, he, hye⟩ := due_last (i := i) hFS hM.1
                have ye : ItemIs (FS.map (·.v)) (-1) e.v := hye hFSl
                k_steps
                exact ⟨rfl, _, _, _, ⟨hok _ (List.mem_of_getLast? he), M, hM.1, hM.2, by rw [hV, he]⟩, rfl, by k_asm, by k_asm⟩
              | cons e r =>
                have ye : ItemIs ((e :: r).map (·.v)) 0 e.v := ⟨by simp at hSl ⊢; omega, 0, .inl ⟨by decide, by simp, rfl⟩, rfl⟩
                (k_with "subscriptTail" => (k_dflt (exact absurd (by assumption : (List.map (fun x : DI => x.v) (e :: r)).isEmpty = true) (by simp))))
                k_steps
                · exact ⟨rfl, _, _, _, ⟨hokS _ (.head _), M, hM.1, hM.2, by rw [hV]⟩, rfl, by k_asm, by k_asm⟩
          · intro v h' tk' hv F' N'
            dsimp only [frBase, frL, frMap, nwAll] at F' N'
            clear N7 F7
            replace N' := news_tail (news_tail (news_tail N'))
            obtain ⟨hv1, hv2⟩ := hv
            (k_with "compareOp Is" => (k_here; k_dflt (refine is_true_v hv1 ?_)))
            k_steps
            show LCg.CompSrc _ _ _ _ _ _ _ _ _ _ _ _ _ _
            refine LCg.CompSrc.ledger (by rfl) (by k_asm) (by k_asm) (by k_mem) (by rw [List.size_toArray, List.length_map]; size_fits) ?_
            intro g6
            refine exI (l := ls) (i := i) hi fun q hq => ?_
            have yq : ItemIs (strValues ls) (0 + (i : Int)) (.str q.1 q.2) := ⟨by simp [strValues]; omega, i, by simpa [strValues] using hIi, by simp [strValues, hq]⟩
            (with_reducible rename News _ _ _ _ => N7)
            have nK := mem_at3 N7
            refine exR (nwAll N7) fun BB hBB => ?_
            dsimp only [nwAll] at hBB
            rw [← hBB] at nK
            have hBR : ∀ p ∈ R, p ∈ BB := fun p hp => by rw [hBB]; exact .tail _ (.tail _ (.tail _ (.tail _ hp)))
            refine rest_inv (fun i' ys nw => ∃ (Us : List Addr) (own2 : List (Addr × Obj)), ys = Us.map Value.ref ∧ nw = own2 ++ BB ∧ (∀ p ∈ own2, p.2.cls = .type "tuple" ∧ ∃ vs n, p.2.data = .seq vs n) ∧ Us.length = i' ∧ ∀ (k : Nat) (d : DI) (U : Addr), ds[k]? = some d → Us[k]? = some U → (U, ({ cls := .type "tuple", data := .seq #[.int d.j d.tj, .str q.1 q.2] } : Obj)) ∈ own2) ?_ ?_ _ 0 [] _ (Nat.zero_add _) ⟨[], [], rfl, by rw [hBB]; rfl, fun p hp => (nomatch hp), rfl, fun k d U h1 h2 => by simp at h2⟩
            · rintro i' ys nw v' I' oI' C' oC' D' m' h' tk' E' hi' ⟨Us, own2, rfl, rfl, ho1, ho2, ho3⟩ hP hC' hx' F' N' off' ne'
              obtain ⟨d, hd', rfl⟩ := due_item hP
              have hBR2 : ∀ p ∈ R, p ∈ own2 ++ BB := fun p hp => List.mem_append_right _ (hBR p hp)
              have w1 := hBR2 _ m1
              have w2 := hBR2 _ mn
              have w4 := hBR2 _ mo
              have w3 := List.mem_append_right own2 nK
              refine exR (own2 ++ BB) fun R2 hR2 => ?_
              rw [← hR2] at N' off' w1 w2 w3 w4
              clear N7
              k_steps
              have l9 := (by assumption : @LT.lt Nat instLTNat I' _ ∧ @LT.lt Nat instLTNat C' _ ∧ @LT.lt Nat instLTNat D' _ ∧ AllLt _ R2)
              (with_reducible rename News _ _ _ _ => N9; with_reducible rename Fr _ _ _ _ => F9)
              refine LCg.CompEnd.intro F9 N9 (_ :: R2) (fun p hp => ?_) ⟨⟨Ne.symm (Nat.ne_of_lt l9.1), Ne.symm (Nat.ne_of_lt l9.2.1), Ne.symm (Nat.ne_of_lt l9.2.2.1)⟩, off'⟩ (Or.inr ⟨_, .tail _ w4, rfl, _, rfl⟩) (due_note hR2 ho1 ho2 ho3 hd')
              simp only [List.mem_cons] at hp ⊢
              grind
            · rintro ys nw ⟨Us, own2, rfl, rfl, ho1, ho2, ho3⟩ D h' tk' F' N' o1'
              rw [List.size_toArray, List.length_map] at ho2
              have o2 := off1_mem o1'
              rw [hBB] at N' o2
              have hap : ∀ p ∈ own2, ∀ q ∈ nwAll N7, q.2.cls ≠ .type "tuple" ∨ (∀ vs n, q.2.data ≠ .seq vs n) → @Ne Nat p.1 q.1 := fun p hp q hq hc => apart_obj N' (o := p.2) (o' := q.2) (.tail _ (List.mem_append_left _ hp)) (.tail _ (List.mem_append_right _ hq)) (fun e => by
                refine hideG ?_
                intro b9 hb9
                rcases ho1 p hp with ⟨x1, vs, n, x2⟩
                refine hb9 ?_
                clear hb9 b9
                rcases hc with hc | hc
                · exact hc (e ▸ x1)
                · exact hc vs n (e ▸ x2))
              have aI := fun p hp => hap p hp _ (.head _) (.inl (by rw [hio]; simp))
              have aA := fun p hp => hap p hp _ (.tail _ (.head _)) (.inl (by simp))
              have dF : ∀ vs n, _ ≠ Data.seq vs n := fun vs n => cell_seq (by assumption)
              have aF := fun p hp => hap p hp _ (.tail _ (.tail _ (.head _))) (.inr fun vs n => cell_seq (by assumption))
              have aK := fun p hp => hap p hp _ (.tail _ (.tail _ (.tail _ (.head _)))) (.inr fun vs n => cell_seq (by assumption))
              dsimp only at aI aA aF aK
              have dI : @Ne Nat _ _ := o2 _ (List.mem_append_right _ (.head _))
              have dA : @Ne Nat _ _ := o2 _ (List.mem_append_right _ (.tail _ (.head _)))
              have dF : @Ne Nat _ _ := o2 _ (List.mem_append_right _ (.tail _ (.tail _ (.head _))))
              have dK : @Ne Nat _ _ := o2 _ (List.mem_append_right _ (.tail _ (.tail _ (.tail _ (.head _)))))
              dsimp only at dI dA dF dK
              refine exR (own2 ++ R) fun R3 hR3 => ?_
              replace N' := due_mid N' hR3
              have rA : ∀ p ∈ R3, p.1 ≠ _ := fun p hp => (List.mem_append.mp (hR3 ▸ hp)).elim (aA p) (hRA p)
              clear N7 hap o2 o1'
              have hTl10 : (Ts.map Value.ref).toArray.size ≤ 10 := by simp only [List.size_toArray, List.length_map]; omega
              k_steps
              (with_reducible rename News _ _ _ _ => N9; with_reducible rename Fr _ _ _ _ => F9)
              have l9 := (by assumption : @LT.lt Nat instLTNat D _ ∧ @LT.lt Nat instLTNat _ _ ∧ @LT.lt Nat instLTNat _ _ ∧ @LT.lt Nat instLTNat _ _ ∧ @LT.lt Nat instLTNat _ _ ∧ AllLt _ R3)
              refine due_turn F9 N9 hq hv2 (hR.symm) hR3 how hTl hTs ho2 ho3 l9 ⟨dI, dA, dF, dK⟩ hRI (fun p hp => ⟨aI p hp, aA p hp, aF p hp, aK p hp⟩) (by assumption) (by assumption) hIA hIF hIK fun z hz => ?_
              have hz' := hz
              simp only [List.contains_cons, List.contains_nil, Bool.or_false, Bool.or_eq_false_iff, beq_eq_false_iff_ne, ne_eq] at hz'
              obtain ⟨x1, x2, x3⟩ := hz'
              simp only [if_neg x1, if_neg x2, if_neg x3, hz, Bool.false_eq_true, if_false]
  intro h₀2 m2 nx2 h2' tk2 F2 N2 hj
  refine hideG ?_
  intro b9 hb9
  rcases hj with ⟨rfl, Ts, own, c, oF, oK, vF, vK, uo, rfl, rfl, hoF, hoK, how, hTl, hTs⟩
  refine hb9 ?_
  clear hb9 b9
  dsimp only [frL, frBase, frMap, nwHead, dueF0, dueK0, dueTl] at F2 N2 how hA3 hFK lnw ⊢
  clear N1 F1
  k_steps
  (with_reducible rename News _ _ _ _ => N9; with_reducible rename Fr _ _ _ _ => F9)
  exact hret _ _ _ _ ⟨_, Ts, own, c, rfl, rfl, fun p hp => Nat.ne_of_lt (allLt_mem lAL.2.2.2.2.2 p hp), fun p hp => (how p hp).1, hTl, hTs⟩ F9 (KStt.news_of N9 fun p hp => by
    simp only [List.mem_cons, List.mem_append] at hp ⊢
    grind)
end Dc
theorem due_call (prog : Program) (w : World) (news : List (Addr × Obj)) (oa va ra na : Addr) (c1 c2 c3 c4 : Nat) (ds : List DI) (vv : List Value) (rows : List Addr) (ls : List (Str × Tok)) (ho : (oa, ({ cls := .type "list", data := .seq (ds.map fun d => Value.int d.j d.tj).toArray c1 } : Obj)) ∈ news)
    (hv : (va, ({ cls := .type "list", data := .seq vv.toArray c2 } : Obj)) ∈ news) (hr : (ra, ({ cls := .type "list", data := .seq (rows.map Value.ref).toArray c3 } : Obj)) ∈ news) (hn : (na, ({ cls := .type "list", data := .seq (strValues ls).toArray c4 } : Obj)) ∈ news)
    (h5 : vv.length = 5) (h5r : rows.length = 5) (hds : ∀ d ∈ ds, DIn prog w news vv rows ls.length d) (hl : ls.length ≤ 10) (hd1 : ds.length ≤ 10) (hd0 : 0 < ds.length) :
    ComesN prog w 20 300 180 news [.ref oa, .ref va, .ref ra, .ref na] (DueOut news ds ls) := by
  intro p loose mean mg mb dp un gd cnn cs a ccd cl outer A₀ base h₀ L m s Q E B F X N T C1 C2 hk
  obtain ⟨ck, cnm, cig, cic, cmo⟩ := cs
  cases hk
  exact henk_all (P := Dc.P0) (by with_unfolding_all exact Dc.main) (prog, w, news, oa, va, ra, na, c1, c2, c3, c4, ds, vv, rows, ls, p, loose, mean, mg, mb, dp, un, gd, cnn, cnm, cig, cic, cmo, a, ccd, cl, outer, A₀, base, h₀, L, m, s, Q, E) ho hv hr hn h5 h5r hds hl hd1 hd0 B F X N T C1 C2 rfl
end Lw
end
example : True := by k_with_none; w_top off; trivial
section
open PySem PySem.W PyProof.Rows
namespace Lw
example : True := by
  k_with_none
  k_with "omega" => ((fail_if_success (fail_if_success (omega (config := {})))); first | lia | omega (config := {}))
  trivial
open PySem.Calls
section
variable {prog : Program} {w : World} {A : Around} {R : Result → Shared → Prop} {s : Shared}
theorem compLoop_pairD {kx vx iter : PySem.Expr} {elts : List PySem.Expr} {x1} {tp : Pos} {scope : Scope} {pos : Pos} {it : Value} {D : Addr} {env : Env} (I : Nat → Shared → Prop)
    (turn : ∀ n s, I n s → wpAny (model prog w) A (pyNext it) (fun r s₁ => match r with
      | none => R (.ok .next) s₁
      | some v => wpAny (model prog w) A (letOwnedTupleGo (.Tuple elts x1 tp) it v) (fun _ s₁' => wpAny (model prog w) A (assign (.Tuple elts x1 tp) env v) (fun _ s₂ =>
          wpAny (model prog w) A (eval kx env) (fun kv s₄ => wpAny (model prog w) A (eval vx env) (fun vv s₅ =>
              wpAny (model prog w) A (dictSet D kv vv) (fun _ s₆ => ∃ m, m < n ∧ I m s₆) (notedBy (model prog w) A env fun e s' => R (.error e) s') s₅) (notedBy (model prog w) A env fun e s' => R (.error e) s') s₄) (notedBy (model prog w) A env fun e s' => R (.error e) s') s₂)
          (notedBy (model prog w) A env fun e s' => R (.error e) s') s₁') (notedBy (model prog w) A env fun e s' => R (.error e) s') s₁) (notedBy (model prog w) A env fun e s' => R (.error e) s') s)
    (n : Nat) (h : I n s) : codeAny (model prog w) A (.compLoop (.DictComp kx vx [⟨.Tuple elts x1 tp, iter, [], 0⟩] scope pos) 0 it (.ref D) env) R s := by
  refine codeAny_loop rfl I (fun n s hI => ?_) n h
  show wpAny _ A ((compTurn (.DictComp kx vx [⟨.Tuple elts x1 tp, iter, [], 0⟩] scope pos) 0 it (.ref D) env).onRaise (fun x => do noteFrame x env; theTreesLotGoes x)) _ _ s
  refine wpAny_noted ?_
  rw [compTurn_dict]
  refine wpAny_bind (wpAny_standAt (wpAny_bind (wpAny_mono (turn n s hI) (fun r s₁ h₁ => ?_) fun _ _ h' => h')))
  cases r with
  | none => exact wpAny_pure h₁
  | some v =>
    refine wpAny_bind (wpAny_mono h₁ (fun _ s₁' h₁' => ?_) fun _ _ h' => h')
    refine wpAny_bind (wpAny_mono h₁' (fun _ s₂ h₂ => wpAny_bind (wpAny_mono (wpAny_tests_nil (Q := fun ok s₃ => ok = true ∧ s₃ = s₂) ⟨rfl, rfl⟩) (fun ok s₃ h₃ => ?_) fun _ _ h' => h')) fun _ _ h' => h')
    obtain ⟨rfl, rfl⟩ := h₃
    exact wpAny_bind (wpAny_bind (wpAny_mono h₂ (fun kv s₄ h₄ => wpAny_bind (wpAny_holding (wpAny_mono h₄ (fun vv s₅ h₅ => wpAny_bind (wpAny_standAt (wpAny_holding (wpAny_mono h₅ (fun _ s₆ h₆ => wpAny_pure ⟨rfl, h₆⟩) fun _ _ h' => h')))) fun _ _ h' => h'))) fun _ _ h' => h'))
end
noncomputable def kvsOf (l : List ((Str × Tok) × Value)) : List (Str × Value) := l.foldl (fun acc p => stored acc p.1.1 p.2) []
theorem kvsOf_snoc {l : List ((Str × Tok) × Value)} {p : (Str × Tok) × Value} : kvsOf (l ++ [p]) = stored (kvsOf l) p.1.1 p.2 := by simp [kvsOf, List.foldl_append]
theorem kvsOf_length : ∀ (l : List ((Str × Tok) × Value)), (kvsOf l).length ≤ l.length := by
  intro l
  have : ∀ (l : List ((Str × Tok) × Value)) (acc : List (Str × Value)), (l.foldl (fun acc p => stored acc p.1.1 p.2) acc).length ≤ acc.length + l.length := by
    intro l
    induction l with
    | nil => intro acc; exact Nat.le_refl _
    | cons p r ih =>
      intro acc
      have h1 := ih (stored acc p.1.1 p.2)
      have h2 := stored_length_le acc p.1.1 p.2
      simp only [List.foldl_cons, List.length_cons]
      omega
  simpa [kvsOf] using this l []
section
variable {prog : Program} {w : World} {A : Around} {E : Value → Shared → Prop} {s : Shared} {h₀ : Heap} {L : Addr} {m : Str → Option Value} {news : List (Addr × Obj)} {env : Env}
noncomputable def FinD (prog : Program) (w : World) (h₀ : Heap) (L : Addr) (m : Str → Option Value) (s₁ : Shared) (Q : Value → Shared → Prop) (news : List (Addr × Obj)) (kvs : List (Str × Value)) : Prop :=
  ∀ D o h tk, Fr h₀ L h m → News h₀ L h ((D, o) :: news) → (∀ p ∈ news, p.1 < D) → (D == sysModules) = false → o.IsDictOf (strKind prog w) kvs → Q (.ref D) { s₁ with heap := h, toks := tk }
inductive ZipSrc (prog : Program) (w : World) (h₀ : Heap) (L : Addr) (m : Str → Option Value) (Q : Value → Shared → Prop) (xv : Value) (s₁ : Shared) : Prop
  | mk (n l1 l2 : Addr) (xs : List (Str × Tok)) (ys : List Value) (news : List (Addr × Obj)) (zz1 : xv = .ref (n + 4)) (zz2 : n + 5 = s₁.heap.objs.size) (zz3 : IsZip s₁.heap (n + 4) (n + 2) (n + 3) .none) (zz4 : IsPair s₁.heap (n + 2) (.ref n) (.ref (n + 1))) (zz5 : IsPair s₁.heap (n + 3) .none .none) (zz6 : s₁.heap.IsListIter n l1 0) (zz7 : s₁.heap.IsListIter (n + 1) l2 0) (zz8 : s₁.heap.IsList l1 (strValues xs).toArray) (zz9 : s₁.heap.IsList l2 ys.toArray) (zz10 : l1 < n) (zz11 : l2 < n) (zz12 : Fr h₀ L s₁.heap m) (zz13 : News h₀ L s₁.heap news) (zz14 : L < n) (zz15 : (∀ p ∈ news, p.1 < n)) (zz16 : (∀ b, n ≤ b → h₀.get? b = none)) (zz17 : xs.length = ys.length) (zz18 : xs.length ≤ 1000) (zz19 : FinD prog w h₀ L m s₁ Q news (kvsOf (xs.zip ys))) : ZipSrc prog w h₀ L m Q xv s₁
theorem ZipSrc.intro {l1 l2 : Addr} {o1 o2 : Obj} {xs : List (Str × Tok)} {ys : List Value} {c1 c2 : Nat} {Q : Value → Shared → Prop} (F : Fr h₀ L s.heap m) (N : News h₀ L s.heap news) (h1 : (l1, o1) ∈ news) (h2 : (l2, o2) ∈ news) (d1 : o1 = { cls := .type "list", data := .seq (strValues xs).toArray c1 }) (d2 : o2 = { cls := .type "list", data := .seq ys.toArray c2 })
    (hl : xs.length = ys.length) (hs : xs.length ≤ 1000) (k : ∀ h', FinD prog w h₀ L m { s with heap := h' } Q news (kvsOf (xs.zip ys))) : wpAny (model prog w) A (call (.type "zip") [.ref l1, .ref l2]) (ZipSrc prog w h₀ L m Q) E s := by
  subst d1 d2
  have a1 := N _ h1
  have a2 := N _ h2
  have L1 : s.heap.IsList l1 (strValues xs).toArray := ⟨_, a1.1, rfl, _, rfl⟩
  have L2 : s.heap.IsList l2 ys.toArray := ⟨_, a2.1, rfl, _, rfl⟩
  refine call_zip_2 L1 L2 fun h' hz hTI hTO hi1 hi2 hsz hk => ?_
  exact ⟨s.heap.objs.size, l1, l2, xs, ys, news, rfl, hsz.symm, hz, hTI, hTO, hi1, hi2, L1.at fun o e => hk _ o e, L2.at fun o e => hk _ o e, Heap.lt_size a1.1, Heap.lt_size a2.1, F.keeps hk, N.grown hk, F.ns.lt, fun p hp => Heap.lt_size (N p hp).1, fun b hb => ktu_new F hb, hl, hs, k h'⟩
inductive ZipAt (prog : Program) (w : World) (n l1 l2 D C : Addr) (xs : List (Str × Tok)) (ys : List Value) (s₁ : Shared) (k : Nat) (s' : Shared) : Prop
  | mk (h' : Heap) (tk : Tok) (i : Nat) (m' : Str → Option Value) (e1 : s' = { s₁ with heap := h', toks := tk }) (e2 : i ≤ xs.length) (e3 : k = xs.length + 1 - i) (e4 : IsZip h' (n + 4) (n + 2) (n + 3) .none ∧ IsPair h' (n + 2) (.ref n) (.ref (n + 1)) ∧ (∃ a b, IsPair h' (n + 3) a b) ∧ h'.IsListIter n l1 i ∧ h'.IsListIter (n + 1) l2 i ∧ h'.IsList l1 (strValues xs).toArray ∧ h'.IsList l2 ys.toArray) (e5 : h'.DictOf (strKind prog w) D (kvsOf ((xs.zip ys).take i))) (e6 : h'.Ns C m') (e7 : ∀ b o, b ∉ [n + 4, n + 3, n, n + 1] → b ≠ C → b ≠ D → s₁.heap.get? b = some o → h'.get? b = some o) : ZipAt prog w n l1 l2 D C xs ys s₁ k s'
theorem DictComp_Z {iter : PySem.Expr} {x x₂ : Str} {kp vp px px₂ tp : Pos} {tk : Nat} {scope : Scope} {cl : List (Str × Addr)} {pos : Pos} {Q : Value → Shared → Prop} (hh : A.handled = none)
    (hclos : closureFor scope env = pure cl) (hcell : ∀ y ∈ scope.names, y.2 ≠ .cell) (hkind : scope.kind = .function)
    (hnames : ∀ y ∈ scope.names, y.2 = .local → scope.names.lookup y.1 = some .local) (hx : scope.names.lookup x = some .local) (hx₂ : scope.names.lookup x₂ = some .local) (hxx : x ≠ x₂) (hd : (x == ("__debug__" : Str)) = false) (hd₂ : (x₂ == ("__debug__" : Str)) = false)
    (h : wpAny (model prog w) A (eval iter env) (ZipSrc prog w h₀ L m Q) E s)
    (hs : ∀ x, foldedSetIterable iter env x = pure x := by intro _; rfl) :
    wpAny (model prog w) A (eval (.DictComp (.Name x kp) (.Name x₂ vp) [⟨.Tuple [.Name x px, .Name x₂ px₂] tk tp, iter, [], 0⟩] scope pos) env) Q E s := by
  rw [arm_eval_DictComp]
  refine wpAny_comprehension_free (use := none) rfl hs hclos hkind hnames (wpAny_mono h (fun xv s₁ h₁ => ?_) fun _ _ e => e)
  obtain ⟨n, l1, l2, xs, ys, news, rfl, hsz, hz, hTI, hTO, hi1, hi2, L1, L2, hl1, hl2, F, N, hLn, hnw, h₀n, hlen, h1000, hfin⟩ := h₁
  refine wpAny_pyIter_zip hz ?_
  refine wpAny_newObj_type (wpAny_newFunctionEnv hcell (by intro y hy; simp at hy) (fun h₁ hns₁ hsb₁ => ?_) hkind)
  dsimp only at hns₁ hsb₁ ⊢
  have hnew : (s₁.heap.push { cls := .type "dict", dict := none, data := .dict #[] }).DictOf (strKind prog w) s₁.heap.objs.size [] := Heap.DictOf.new s₁.heap
  generalize hH2 : s₁.heap.push { cls := .type "dict", dict := none, data := .dict #[] } = H2 at hns₁ hsb₁ hnew ⊢
  have hC : H2.objs.size = s₁.heap.objs.size + 1 := by rw [← hH2, Heap.size_push]
  have hC5 : H2.objs.size = n + 6 := by rw [hC, ← hsz]
  have hD5 : s₁.heap.objs.size = n + 5 := hsz.symm
  have W := (WalksT.zip2 (prog := prog) (w := w) hh (n + 4) (n + 2) (n + 3) n (n + 1) l1 l2 (ktu_apart _ _ _ hl1 hl2) (strValues xs).toArray ys.toArray).toU
  have hn2 : min (strValues xs).toArray.size ys.toArray.size = xs.length := by simp [strValues, hlen]
  rw [hn2] at W
  have hDC : s₁.heap.objs.size ≠ H2.objs.size := by rw [hC]; exact Nat.ne_of_lt (Nat.lt_succ_self _)
  have below : ∀ b, b < s₁.heap.objs.size → b ≠ H2.objs.size ∧ b ≠ s₁.heap.objs.size := fun b hb => ⟨by rw [hC]; exact Nat.ne_of_lt (Nat.lt_succ_of_lt hb), Nat.ne_of_lt hb⟩
  have old : ∀ b o, s₁.heap.get? b = some o → h₁.get? b = some o := fun b o e => hsb₁.extBut b o (below b (Heap.lt_size e)).1 (Heap.get?_push_of_some _ (hH2 ▸ Heap.get?_push_of_some _ e))
  have hacc : h₁.DictOf (strKind prog w) s₁.heap.objs.size [] := hnew.at fun o e => hsb₁.extBut _ _ hDC (Heap.get?_push_of_some _ e)
  have hfp : ∀ b ∈ [n + 4, n + 2, n + 3, n, n + 1, l1, l2], b < s₁.heap.objs.size := fun b hb => by
    rw [hD5]
    have h1 : @LT.lt Nat instLTNat l1 n := hl1
    have h2 : @LT.lt Nat instLTNat l2 n := hl2
    simp only [List.mem_cons, List.not_mem_nil, or_false] at hb
    show @LT.lt Nat instLTNat b (n + 5)
    rcases hb with rfl | rfl | rfl | rfl | rfl | rfl | rfl <;> omega
  have hst₁ := W.frame 0 _ h₁ ⟨hz, hTI, ⟨_, _, hTO⟩, hi1, hi2, L1, L2⟩ fun b _ o e => old b o e
  have hCf : H2.objs.size ∉ [n + 4, n + 2, n + 3, n, n + 1, l1, l2] := fun hm => (below _ (hfp _ hm)).1 rfl
  have hDf : s₁.heap.objs.size ∉ [n + 4, n + 2, n + 3, n, n + 1, l1, l2] := fun hm => (below _ (hfp _ hm)).2 rfl
  have hCw : H2.objs.size ∉ [n + 4, n + 3, n, n + 1] := fun h => hCf (W.sub _ h)
  have hDw : s₁.heap.objs.size ∉ [n + 4, n + 3, n, n + 1] := fun h => hDf (W.sub _ h)
  have hkl : (compEnvC scope cl H2.objs.size env).scope.kind = .function := by simp [compEnvC, relabel, hkind]
  have hp : ((compEnvC scope cl H2.objs.size env).scope.kind == .class || ((compEnvC scope cl H2.objs.size env).scope.kind == .module && (compEnvC scope cl H2.objs.size env).locals != (compEnvC scope cl H2.objs.size env).globals)) = false := by simp [hkl]
  have loop : ∀ s₃ : Shared, s₃ = { s₁ with heap := h₁, toks := s₁.toks + ([] : List (Str × Value)).length } →
      codeAny (model prog w) A (.compLoop (.DictComp (.Name x kp) (.Name x₂ vp) [⟨.Tuple [.Name x px, .Name x₂ px₂] tk tp, iter, [], 0⟩] scope pos) 0 (.ref (n + 4)) (.ref s₁.heap.objs.size) (compEnvC scope cl H2.objs.size env))
        (compPost (model prog w) A E none Q (.ref s₁.heap.objs.size) H2.objs.size) s₃ := by
    rintro s₃ rfl
    refine compLoop_pairD (ZipAt prog w n l1 l2 s₁.heap.objs.size H2.objs.size xs ys s₁) ?_ (xs.length + 1)
      ⟨h₁, _, 0, _, rfl, Nat.zero_le _, rfl, hst₁, hacc, hns₁, fun b o _ _ _ e => old b o e⟩
    rintro k s' ⟨h', tk', i, m', rfl, hi, rfl, hst', hacc', hn', hk'⟩
    by_cases hlt : i < xs.length
    · refine W.item i _ _ _ hlt hst' fun T vals h₂ tk₂ hPv hT hMid hk₂ => ?_
      obtain ⟨xv, yv, hxv, hyv, rfl⟩ := hPv
      have hTw := W.apart i T h₂ hMid
      refine W.go _ _ _ i T _ _ _ hMid fun h₄ hst₄ hk₄ => ?_
      have hT4 : IsTup h₄ T #[xv, yv] := hT.at fun o e => hk₄ T o hTw e
      refine assign_Tuple_tuple hh hT4 rfl rfl fun h₅ he => ?_
      have he' : ∀ b o, h₄.get? b = some o → h₅.get? b = some o := fun b o e => he b o (Nat.ne_of_lt (Heap.lt_size e)) e
      refine assignInOrder_cons (wpAny_assign_Name (wpAny_storeName_local (lookup_relabel_local hx) (((hn'.at' fun o e => hk₂ _ o hCw e).at' fun o e => hk₄ _ o hCw e).at' fun o e => he' _ o e) (fun h₆ hn₆ hs₆ => ?_) hp))
      refine assignInOrder_cons (wpAny_assign_Name (wpAny_storeName_local (lookup_relabel_local hx₂) hn₆ (fun h₃ hn₃ hs₃ => ?_) hp))
      refine assignInOrder_nil ?_
      have up : ∀ b o, b ∉ [n + 4, n + 3, n, n + 1] → b ≠ H2.objs.size → h'.get? b = some o → h₃.get? b = some o := fun b o hbw hbC e => hs₃.extBut b o hbC (hs₆.extBut b o hbC (he' b o (hk₄ b o hbw (hk₂ b o hbw e))))
      have hst₃ := W.frame (i + 1) h₄ h₃ hst₄ fun b hb o e => hs₃.extBut b o (fun q => hCf (by have q' : b = H2.objs.size := q; rw [← q']; exact hb)) (hs₆.extBut b o (fun q => hCf (by have q' : b = H2.objs.size := q; rw [← q']; exact hb)) (he' b o e))
      have hq : ∃ q : Str × Tok, xs[i]? = some q ∧ xv = .str q.1 q.2 := by
        simp only [strValues, List.getElem?_toArray, List.getElem?_map, Option.map_eq_some_iff] at hxv
        obtain ⟨q, h1, h2⟩ := hxv
        exact ⟨q, h1, h2.symm⟩
      obtain ⟨q, hq, rfl⟩ := hq
      have hyv2 : ys[i]? = some yv := by simpa using hyv
      refine wpAny_Name (wpAny_loadName_local (v := .str q.1 q.2) hkl (lookup_relabel_local hx) hn₃ (by simp [hxx]) ?_) hd
      refine wpAny_Name (wpAny_loadName_local (v := yv) hkl (lookup_relabel_local hx₂) hn₃ (by simp) ?_) hd₂
      have hkv := kvsOf_length ((xs.zip ys).take i)
      rw [List.length_take] at hkv
      refine wpAny_dictSet_pairs (knd := strKind prog w) (k := q.1) (hsz := by unfold sizeLine; omega) (strKind_is _ _ _ _) (hacc'.at fun o e => up _ o hDw hDC e) fun h₇ hl₇ hs₇ => ?_
      refine ⟨xs.length + 1 - (i + 1), by omega, h₇, _, i + 1, _, rfl, hlt, rfl, W.frame _ _ _ hst₃ fun b hb o e => hs₇.extBut b o (fun q => hDf (by have q' : b = s₁.heap.objs.size := q; rw [← q']; exact hb)) e, ?_, hn₃.sameBut hs₇ (Ne.symm hDC), fun b o h1 h2 h3 e => hs₇.extBut b o h3 (up b o h1 h2 (hk' b o h1 h2 h3 e))⟩
      have ez : (xs.zip ys).take (i + 1) = (xs.zip ys).take i ++ [(q, yv)] := by
        have : (xs.zip ys)[i]? = some (q, yv) := zip_get hq hyv2
        rw [List.take_add_one, this]
        rfl
      rw [ez, kvsOf_snoc]
      exact hl₇
    · obtain rfl : i = xs.length := Nat.le_antisymm hi (Nat.not_lt.mp hlt)
      refine W.done _ _ _ hst' fun h₂ tk₂ hk₂ => ?_
      refine ⟨m', hn'.at' fun o e => hk₂ _ o hCw e, fun h'' hs'' => ?_⟩
      have keep : ∀ b o, b ∉ [n + 4, n + 3, n, n + 1] → s₁.heap.get? b = some o → h''.get? b = some o := fun b o hb e =>
        hs''.extBut b o (below b (Heap.lt_size e)).1 (hk₂ b o hb (hk' b o hb (below b (Heap.lt_size e)).1 (below b (Heap.lt_size e)).2 e))
      have hlow : ∀ b : Addr, b < n → b ∉ [n + 4, n + 3, n, n + 1] := fun b hb hm => by
        have h1 : @LT.lt Nat instLTNat b n := hb
        simp only [List.mem_cons, List.not_mem_nil, or_false] at hm
        rcases hm with h | h | h | h <;> (have h2 : @Eq Nat b _ := h; omega)
      have hDd : h''.DictOf (strKind prog w) s₁.heap.objs.size (kvsOf ((xs.zip ys).take xs.length)) := (hacc'.at fun o e => hk₂ _ o hDw e).at fun o e => hs''.extBut _ o hDC e
      obtain ⟨oD, hoD, hoK⟩ := Heap.dictOf_iff.mp hDd
      rw [List.take_of_length_le (by rw [List.length_zip]; exact Nat.min_le_left _ _)] at hoK
      have hF'' : Fr h₀ L h'' m := ⟨F.ns.at' fun o e => keep L o (hlow L hLn) e, fun b o e => keep b o (fun hm => by
          have : n ≤ b := by
            simp only [List.mem_cons, List.not_mem_nil, or_false] at hm
            show @LE.le Nat instLENat n b
            rcases hm with h | h | h | h <;> (have h2 : @Eq Nat b _ := h; omega)
          rw [h₀n b this] at e
          cases e) (F.keep b o e), F.above⟩
      refine hfin _ oD h'' tk₂ hF'' (fun p hp => ?_) (fun p hp => ?_) (by rw [hD5, beq_eq_false_iff_ne]; intro e; have e2 : @Eq Nat (n + 5) 1 := e; omega) hoK
      · rcases List.mem_cons.mp hp with rfl | hp
        · refine ⟨hoD, fun e => ?_, h₀n _ (by rw [hD5]; exact Nat.le_add_right _ _)⟩
          have e : s₁.heap.objs.size = L := e
          rw [← e, hD5] at hLn
          exact absurd hLn (Nat.not_lt.mpr (Nat.le_add_right _ _))
        · exact ⟨keep _ _ (hlow _ (hnw p hp)) (N p hp).1, (N p hp).2⟩
      · rw [hD5]
        exact Nat.lt_of_lt_of_le (hnw p hp) (Nat.le_add_right _ _)
  exact codeAny_compStart_dict (loop _ rfl) (W.self 0 _ _ _ hst₁ (loop _ rfl))
end
open PyProof.V PySem.Spec in
noncomputable def tabOf (xs : List (Str × Tok)) (ns : List Int) : List (PyData × PyData) := ((xs.map (·.1)).zip ns).foldl (fun D p => putD (.str p.1) (.int p.2) D) []
open PyProof.V PySem.Spec in
theorem zip_flat : ∀ {xs : List (Str × Tok)} {ys : List Value} {ns : List Int} (_ : IntsAre ys ns) {kvs : List (Str × Value)} {D : List (PyData × PyData)}, FlatPairs PyData.str kvs D →
    FlatPairs PyData.str ((xs.zip ys).foldl (fun acc p => stored acc p.1.1 p.2) kvs) (((xs.map (·.1)).zip ns).foldl (fun D p => putD (.str p.1) (.int p.2) D) D)
  | [], _, _, _, _, _, h => by simpa using h
  | _ :: _, _, _, .nil, _, _, h => by simpa using h
  | x :: xs, _, _, .cons k t hi, _, _, h => by
    simp only [List.zip_cons_cons, List.map_cons, List.foldl_cons]
    exact zip_flat hi (FlatPairs.stored (same_str) h x.1 (Flat.int k t))
open PyProof.V PySem.Spec in
theorem zip_tab {prog : Program} {w : World} {xs : List (Str × Tok)} {ys : List Value} {ns : List Int} {D : Addr} {o : Obj} (hi : IntsAre ys ns) (lo : (D == sysModules) = false) (hk : o.IsDictOf (strKind prog w) (kvsOf (xs.zip ys))) (h : Heap) (ho : h.get? D = some o) : StrTab prog w h D (tabOf xs ns) :=
  TabAt.ofObj lo ho hk (zip_flat hi .nil)
open PyProof.V PySem.Spec in
theorem look_fold {k : Str} {v : Int} : ∀ (l : List (Str × Int)) (D : List (PyData × PyData)), (∀ p ∈ l, p.1 = k → p.2 = v) → ((∃ p ∈ l, p.1 = k) ∨ Spec.lookup (PyData.str k) D = some (.int v)) →
    Spec.lookup (PyData.str k) (l.foldl (fun D p => putD (.str p.1) (.int p.2) D) D) = some (.int v)
  | [], D, _, h => by
    rcases h with ⟨p, hp, _⟩ | h
    · exact nomatch hp
    · exact h
  | p :: r, D, hc, h => by
    rw [List.foldl_cons]
    refine look_fold r _ (fun q hq => hc q (.tail _ hq)) ?_
    by_cases e : k = p.1
    · right
      rw [lookup_putK keyEnc_str, if_pos e, hc p (.head _) e.symm]
    · rcases h with ⟨q, hq, e2⟩ | h
      · rcases List.mem_cons.mp hq with rfl | hq
        · exact absurd e2.symm e
        · exact .inl ⟨q, hq, e2⟩
      · right
        rw [lookup_putK keyEnc_str, if_neg e]
        exact h
open PyProof.V PySem.Spec in
theorem tab_look {xs : List (Str × Tok)} {ns : List Int} {i : Nat} {q : Str × Tok} {r : Int} (hc : ∀ (j : Nat) (q' : Str × Tok) (r' : Int), xs[j]? = some q' → ns[j]? = some r' → q'.1 = q.1 → r' = r) (hq : xs[i]? = some q) (hr : ns[i]? = some r) : Spec.lookup (PyData.str q.1) (tabOf xs ns) = some (.int r) := by
  refine look_fold _ _ (fun p hp e => ?_) (.inl ⟨(q.1, r), List.mem_of_getElem? (i := i) (zip_get (by simp [hq]) hr), rfl⟩)
  obtain ⟨j, hj⟩ := List.mem_iff_getElem?.mp hp
  obtain ⟨h1, h2⟩ := List.getElem?_zip_eq_some.mp hj
  rw [List.getElem?_map] at h1
  obtain ⟨q', h3, h4⟩ := Option.map_eq_some_iff.mp h1
  exact hc j q' p.2 h3 h2 (h4.trans e)
end Lw
end
example : True := by k_with_none; w_top off; trivial
section
open PySem PySem.W PyProof.Rows
namespace Lw
example : True := by
  k_with_none
  k_with "omega" => ((fail_if_success (fail_if_success (omega (config := {})))); first | lia | omega (config := {}))
  trivial
open PySem.Calls
section
variable {prog : Program} {w : World} {A : Around} {E : Value → Shared → Prop} {s : Shared} {h₀ : Heap} {L : Addr} {m : Str → Option Value} {news : List (Addr × Obj)} {env : Env}
inductive ZipSame (h₀ : Heap) (L : Addr) (m : Str → Option Value) (Q : Value → Shared → Prop) (xv : Value) (s₁ : Shared) : Prop
  | mk (n l1 l2 : Addr) (xs : List Addr) (news : List (Addr × Obj)) (zz1 : xv = .ref (n + 4)) (zz2 : n + 5 = s₁.heap.objs.size) (zz3 : IsZip s₁.heap (n + 4) (n + 2) (n + 3) .none) (zz4 : IsPair s₁.heap (n + 2) (.ref n) (.ref (n + 1))) (zz5 : IsPair s₁.heap (n + 3) .none .none) (zz6 : s₁.heap.IsListIter n l1 0) (zz7 : s₁.heap.IsListIter (n + 1) l2 0) (zz8 : s₁.heap.IsList l1 (xs.map Value.ref).toArray) (zz9 : s₁.heap.IsList l2 (xs.map Value.ref).toArray) (zz10 : l1 < n) (zz11 : l2 < n) (zz12 : Fr h₀ L s₁.heap m) (zz13 : News h₀ L s₁.heap news) (zz14 : L < n) (zz15 : (∀ p ∈ news, p.1 < n)) (zz16 : (∀ b, n ≤ b → h₀.get? b = none)) (zz17 : xs.length ≤ 1000) (zz18 : ∀ D h tk, Fr h₀ L h m → News h₀ L h ((D, LCg.lst (List.replicate xs.length (.bool true))) :: news) → (∀ p ∈ news, p.1 < D) → Q (.ref D) { s₁ with heap := h, toks := tk }) : ZipSame h₀ L m Q xv s₁
theorem ZipSame.intro {l1 l2 : Addr} {o1 o2 : Obj} {xs : List Addr} {c1 c2 : Nat} {Q : Value → Shared → Prop} (F : Fr h₀ L s.heap m) (N : News h₀ L s.heap news) (h1 : (l1, o1) ∈ news) (h2 : (l2, o2) ∈ news) (d1 : o1 = { cls := .type "list", data := .seq (xs.map Value.ref).toArray c1 }) (d2 : o2 = { cls := .type "list", data := .seq (xs.map Value.ref).toArray c2 })
    (hs : xs.length ≤ 1000) (k : ∀ D h tk, Fr h₀ L h m → News h₀ L h ((D, LCg.lst (List.replicate xs.length (.bool true))) :: news) → (∀ p ∈ news, p.1 < D) → Q (.ref D) { s with heap := h, toks := tk }) : wpAny (model prog w) A (call (.type "zip") [.ref l1, .ref l2]) (ZipSame h₀ L m Q) E s := by
  subst d1 d2
  have a1 := N _ h1
  have a2 := N _ h2
  have L1 : s.heap.IsList l1 (xs.map Value.ref).toArray := ⟨_, a1.1, rfl, _, rfl⟩
  have L2 : s.heap.IsList l2 (xs.map Value.ref).toArray := ⟨_, a2.1, rfl, _, rfl⟩
  refine call_zip_2 L1 L2 fun h' hz hTI hTO hi1 hi2 hsz hk => ?_
  exact ⟨s.heap.objs.size, l1, l2, xs, news, rfl, hsz.symm, hz, hTI, hTO, hi1, hi2, L1.at fun o e => hk _ o e, L2.at fun o e => hk _ o e, Heap.lt_size a1.1, Heap.lt_size a2.1, F.keeps hk, N.grown hk, F.ns.lt, fun p hp => Heap.lt_size (N p hp).1, fun b hb => ktu_new F hb, hs, k⟩
inductive SamAt (n l1 l2 D C : Addr) (xs : List Addr) (s₁ : Shared) (k : Nat) (s' : Shared) : Prop
  | mk (h' : Heap) (tk : Tok) (i : Nat) (m' : Str → Option Value) (e1 : s' = { s₁ with heap := h', toks := tk }) (e2 : i ≤ xs.length) (e3 : k = xs.length + 1 - i) (e4 : IsZip h' (n + 4) (n + 2) (n + 3) .none ∧ IsPair h' (n + 2) (.ref n) (.ref (n + 1)) ∧ (∃ a b, IsPair h' (n + 3) a b) ∧ h'.IsListIter n l1 i ∧ h'.IsListIter (n + 1) l2 i ∧ h'.IsList l1 (xs.map Value.ref).toArray ∧ h'.IsList l2 (xs.map Value.ref).toArray) (e5 : h'.get? D = some (LCg.lst (List.replicate i (.bool true)))) (e6 : h'.Ns C m') (e7 : ∀ b o, b ∉ [n + 4, n + 3, n, n + 1] → b ≠ C → b ≠ D → s₁.heap.get? b = some o → h'.get? b = some o) : SamAt n l1 l2 D C xs s₁ k s'
theorem ListComp_Z {iter : PySem.Expr} {x x₂ : Str} {kp vp px px₂ tp cp : Pos} {tk : Nat} {scope : Scope} {cl : List (Str × Addr)} {pos : Pos} {Q : Value → Shared → Prop} (hh : A.handled = none)
    (hclos : closureFor scope env = pure cl) (hcell : ∀ y ∈ scope.names, y.2 ≠ .cell) (hkind : scope.kind = .function)
    (hnames : ∀ y ∈ scope.names, y.2 = .local → scope.names.lookup y.1 = some .local) (hx : scope.names.lookup x = some .local) (hx₂ : scope.names.lookup x₂ = some .local) (hxx : x ≠ x₂) (hd : (x == ("__debug__" : Str)) = false) (hd₂ : (x₂ == ("__debug__" : Str)) = false)
    (h : wpAny (model prog w) A (eval iter env) (ZipSame h₀ L m Q) E s)
    (hs : ∀ x, foldedSetIterable iter env x = pure x := by intro _; rfl) :
    wpAny (model prog w) A (eval (.ListComp (.Compare (.Name x kp) [.Is] [.Name x₂ vp] cp) [⟨.Tuple [.Name x px, .Name x₂ px₂] tk tp, iter, [], 0⟩] scope pos) env) Q E s := by
  rw [eval_ListComp]
  refine wpAny_comprehension_free (use := none) rfl hs hclos hkind hnames (wpAny_mono h (fun xv s₁ h₁ => ?_) fun _ _ e => e)
  obtain ⟨n, l1, l2, xs, news, rfl, hsz, hz, hTI, hTO, hi1, hi2, L1, L2, hl1, hl2, F, N, hLn, hnw, h₀n, h1000, hfin⟩ := h₁
  refine wpAny_pyIter_zip hz ?_
  refine wpAny_newObj_type (wpAny_newFunctionEnv hcell (by intro y hy; simp at hy) (fun h₁ hns₁ hsb₁ => ?_) hkind)
  dsimp only at hns₁ hsb₁ ⊢
  generalize hH2 : s₁.heap.push { cls := .type "list", dict := none, data := .seq ([] : List Value).toArray } = H2 at hns₁ hsb₁ ⊢
  generalize hDd : s₁.heap.objs.size = D at hns₁ hsb₁ hsz ⊢
  have hC : H2.objs.size = D + 1 := by rw [← hH2, Heap.size_push, hDd]
  have hget : H2.get? D = some (LCg.lst []) := by rw [← hH2, ← hDd]; exact Heap.get?_push_size _ rfl
  have hup2 : ∀ b o, s₁.heap.get? b = some o → H2.get? b = some o := fun b o e => by rw [← hH2]; exact Heap.get?_push_of_some _ e
  generalize hCd : H2.objs.size = C at hns₁ hsb₁ hC ⊢
  have hDC : D ≠ C := by rw [hC]; exact Nat.ne_of_lt (Nat.lt_succ_self _)
  have W := (WalksT.zip2 (prog := prog) (w := w) hh (n + 4) (n + 2) (n + 3) n (n + 1) l1 l2 (ktu_apart _ _ _ hl1 hl2) (xs.map Value.ref).toArray (xs.map Value.ref).toArray).toU
  have hn2 : min (xs.map Value.ref).toArray.size (xs.map Value.ref).toArray.size = xs.length := by simp
  rw [hn2] at W
  have below : ∀ b, b < D → b ≠ C ∧ b ≠ D := fun b hb => ⟨by rw [hC]; exact Nat.ne_of_lt (Nat.lt_succ_of_lt hb), Nat.ne_of_lt hb⟩
  have hlt : ∀ {b o}, s₁.heap.get? b = some o → b < D := fun e => hDd ▸ Heap.lt_size e
  have old : ∀ b o, s₁.heap.get? b = some o → h₁.get? b = some o := fun b o e => hsb₁.extBut b o (below b (hlt e)).1 (Heap.get?_push_of_some _ (hup2 b o e))
  have hacc : h₁.get? D = some (LCg.lst []) := hsb₁.extBut _ _ hDC (Heap.get?_push_of_some _ hget)
  have hfp : ∀ b ∈ [n + 4, n + 2, n + 3, n, n + 1, l1, l2], b < D := fun b hb => by
    rw [← hsz]
    have h1 : @LT.lt Nat instLTNat l1 n := hl1
    have h2 : @LT.lt Nat instLTNat l2 n := hl2
    simp only [List.mem_cons, List.not_mem_nil, or_false] at hb
    show @LT.lt Nat instLTNat b (n + 5)
    rcases hb with rfl | rfl | rfl | rfl | rfl | rfl | rfl <;> omega
  have hst₁ := W.frame 0 _ h₁ ⟨hz, hTI, ⟨_, _, hTO⟩, hi1, hi2, L1, L2⟩ fun b _ o e => old b o e
  have hCf : C ∉ [n + 4, n + 2, n + 3, n, n + 1, l1, l2] := fun hm => (below _ (hfp _ hm)).1 rfl
  have hDf : D ∉ [n + 4, n + 2, n + 3, n, n + 1, l1, l2] := fun hm => (below _ (hfp _ hm)).2 rfl
  have hCw : C ∉ [n + 4, n + 3, n, n + 1] := fun h => hCf (W.sub _ h)
  have hDw : D ∉ [n + 4, n + 3, n, n + 1] := fun h => hDf (W.sub _ h)
  have hkl : (compEnvC scope cl C env).scope.kind = .function := by simp [compEnvC, relabel, hkind]
  have hp : ((compEnvC scope cl C env).scope.kind == .class || ((compEnvC scope cl C env).scope.kind == .module && (compEnvC scope cl C env).locals != (compEnvC scope cl C env).globals)) = false := by simp [hkl]
  have loop : ∀ s₃ : Shared, s₃ = { s₁ with heap := h₁, toks := s₁.toks + ([] : List (Str × Value)).length } →
      codeAny (model prog w) A (.compLoop (.ListComp (.Compare (.Name x kp) [.Is] [.Name x₂ vp] cp) [⟨.Tuple [.Name x px, .Name x₂ px₂] tk tp, iter, [], 0⟩] scope pos) 0 (.ref (n + 4)) (.ref D) (compEnvC scope cl C env))
        (compPost (model prog w) A E none Q (.ref D) C) s₃ := by
    rintro s₃ rfl
    refine LCp.codeAny_compLoop_pair (SamAt n l1 l2 D C xs s₁) ?_ (xs.length + 1)
      ⟨h₁, _, 0, _, rfl, Nat.zero_le _, rfl, hst₁, hacc, hns₁, fun b o _ _ _ e => old b o e⟩
    rintro k s' ⟨h', tk', i, m', rfl, hi, rfl, hst', hacc', hn', hk'⟩
    by_cases hlti : i < xs.length
    · refine W.item i _ _ _ hlti hst' fun T vals h₂ tk₂ hPv hT hMid hk₂ => ?_
      obtain ⟨xv, yv, hxv, hyv, rfl⟩ := hPv
      rw [hxv] at hyv
      cases hyv
      obtain ⟨a, rfl⟩ : ∃ a, xv = .ref a := by
        simp only [List.getElem?_toArray, List.getElem?_map, Option.map_eq_some_iff] at hxv
        obtain ⟨q, h1, h2⟩ := hxv
        exact ⟨q, h2.symm⟩
      have hTw := W.apart i T h₂ hMid
      refine W.go _ _ _ i T _ _ _ hMid fun h₄ hst₄ hk₄ => ?_
      have hT4 : IsTup h₄ T #[.ref a, .ref a] := hT.at fun o e => hk₄ T o hTw e
      refine assign_Tuple_tuple hh hT4 rfl rfl fun h₅ he => ?_
      have he' : ∀ b o, h₄.get? b = some o → h₅.get? b = some o := fun b o e => he b o (Nat.ne_of_lt (Heap.lt_size e)) e
      refine assignInOrder_cons (wpAny_assign_Name (wpAny_storeName_local (lookup_relabel_local hx) (((hn'.at' fun o e => hk₂ _ o hCw e).at' fun o e => hk₄ _ o hCw e).at' fun o e => he' _ o e) (fun h₆ hn₆ hs₆ => ?_) hp))
      refine assignInOrder_cons (wpAny_assign_Name (wpAny_storeName_local (lookup_relabel_local hx₂) hn₆ (fun h₃ hn₃ hs₃ => ?_) hp))
      refine assignInOrder_nil ?_
      have up : ∀ b o, b ∉ [n + 4, n + 3, n, n + 1] → b ≠ C → h'.get? b = some o → h₃.get? b = some o := fun b o hbw hbC e => hs₃.extBut b o hbC (hs₆.extBut b o hbC (he' b o (hk₄ b o hbw (hk₂ b o hbw e))))
      have hst₃ := W.frame (i + 1) h₄ h₃ hst₄ fun b hb o e => hs₃.extBut b o (fun q => hCf (by have q' : b = C := q; rw [← q']; exact hb)) (hs₆.extBut b o (fun q => hCf (by have q' : b = C := q; rw [← q']; exact hb)) (he' b o e))
      refine wpAny_Compare1 ?_
      refine wpAny_Name (wpAny_loadName_local (v := .ref a) hkl (lookup_relabel_local hx) hn₃ (by simp [hxx]) ?_) hd
      refine wpAny_Name (wpAny_loadName_local (v := .ref a) hkl (lookup_relabel_local hx₂) hn₃ (by simp) ?_) hd₂
      refine wpAny_is_ref_self ?_
      refine append_at (hsz := by show (List.replicate i (Value.bool true)).toArray.size ≤ sizeLine; rw [List.size_toArray, List.length_replicate]; unfold sizeLine; omega) (up _ _ hDw hDC hacc') fun h₇ hs₇ hD₇ => ?_
      refine ⟨xs.length + 1 - (i + 1), by omega, h₇, _, i + 1, _, rfl, hlti, rfl, W.frame _ _ _ hst₃ fun b hb o e => hs₇.extBut b o (fun q => hDf (by have q' : b = D := q; rw [← q']; exact hb)) e, ?_, hn₃.sameBut hs₇ (Ne.symm hDC), fun b o h1 h2 h3 e => hs₇.extBut b o h3 (up b o h1 h2 (hk' b o h1 h2 h3 e))⟩
      rw [hD₇, List.replicate_succ']
      exact congrArg some (LCg.lst_snoc _ _)
    · obtain rfl : i = xs.length := Nat.le_antisymm hi (Nat.not_lt.mp hlti)
      refine W.done _ _ _ hst' fun h₂ tk₂ hk₂ => ?_
      refine ⟨m', hn'.at' fun o e => hk₂ _ o hCw e, fun h'' hs'' => ?_⟩
      have keep : ∀ b o, b ∉ [n + 4, n + 3, n, n + 1] → s₁.heap.get? b = some o → h''.get? b = some o := fun b o hb e =>
        hs''.extBut b o (below b (hlt e)).1 (hk₂ b o hb (hk' b o hb (below b (hlt e)).1 (below b (hlt e)).2 e))
      have hlow : ∀ b : Addr, b < n → b ∉ [n + 4, n + 3, n, n + 1] := fun b hb hm => by
        have h1 : @LT.lt Nat instLTNat b n := hb
        simp only [List.mem_cons, List.not_mem_nil, or_false] at hm
        rcases hm with h | h | h | h <;> (have h2 : @Eq Nat b _ := h; omega)
      have hoD : h''.get? D = some _ := hs''.extBut _ _ hDC (hk₂ _ _ hDw hacc')
      have hF'' : Fr h₀ L h'' m := ⟨F.ns.at' fun o e => keep L o (hlow L hLn) e, fun b o e => keep b o (fun hm => by
          have : n ≤ b := by
            simp only [List.mem_cons, List.not_mem_nil, or_false] at hm
            show @LE.le Nat instLENat n b
            rcases hm with h | h | h | h <;> (have h2 : @Eq Nat b _ := h; omega)
          rw [h₀n b this] at e
          cases e) (F.keep b o e), F.above⟩
      have hDn : @LT.lt Nat instLTNat n D := by rw [← hsz]; show @LT.lt Nat instLTNat n (n + 5); omega
      refine hfin D h'' tk₂ hF'' (fun p hp => ?_) (fun p hp => Nat.lt_trans (hnw p hp) hDn)
      rcases List.mem_cons.mp hp with rfl | hp
      · refine ⟨hoD, fun e => ?_, h₀n _ (Nat.le_of_lt hDn)⟩
        have e : D = L := e
        rw [← e] at hLn
        exact absurd hLn (Nat.not_lt.mpr (Nat.le_of_lt hDn))
      · exact ⟨keep _ _ (hlow _ (hnw p hp)) (N p hp).1, (N p hp).2⟩
  exact codeAny_compStart_list (loop _ rfl) (W.self 0 _ _ _ hst₁ (loop _ rfl))
end
end Lw
end
example : True := by k_with_none; w_top off; trivial
section
open PySem PySem.W PyProof.Rows
namespace Lw
example : True := by
  k_with_none
  k_with "omega" => ((fail_if_success (fail_if_success (omega (config := {})))); first | lia | omega (config := {}))
  k_with "callWith ref" => ((k_here; k_dflt (refine' callWith_K ?kAw90 ?kBw90 ?_; (case kAw90 => k_asm); (case kBw90 => k_is); k_whole)))
  k_with "eval Name" => ((k_here; (fail_if_success (with_reducible show wpAny _ _ (eval (Expr.Name _ _) (compEnvC _ _ _ _)) _ _ _)); k_dflt (first | (refine' nameX_L ?Fw91 ?vw91 ?_ ?aw91 ?bw91; (case bw91 => rfl); (case Fw91 => k_asm); (case aw91 => rfl); (case vw91 => rfl); k_whole) | (refine' nameX_C ?Nw92 ?cw92 ?mw92 ?dw92 ?_ ?aw92 ?bw92; (case bw92 => rfl); (case aw92 => rfl); (case Nw92 => k_asm); (case cw92 => rfl); (case mw92 => k_mem); (case dw92 => k_asm); k_whole) | (refine' nameX_K ?Fw93 ?Xw93 ?Tw93 ?ew93 ?_ ?aw93 ?bw93; (case bw93 => rfl); (case Fw93 => k_asm); (case Xw93 => k_asm); (case Tw93 => k_asm); (case aw93 => rfl); (case ew93 => k_is); k_whole) | (refine' nameX_B ?Fw94 ?Xw94 ?Tw94 ?ew94 ?vw94 ?nw94 ?_ ?aw94 ?bw94; (case bw94 => rfl); (case Fw94 => k_asm); (case Xw94 => k_asm); (case Tw94 => k_asm); (case aw94 => rfl); (case ew94 => k_is); (case vw94 => boot_fast); (case nw94 => decide); k_whole))))
  k_with "execs cons" => ((k_here; refine execs_G ?_; intro G9w hG9w))
  k_with "Go" => (((try dsimp only); first | (refine go_next_S (by with_reducible assumption) ?_; intro tSw) | refine go_ret (by with_reducible assumption) ?_ | refine go_cont (by with_reducible assumption) ?_ | refine go_brk (by with_reducible assumption) ?_))
  k_with "k_ne" => ((with_reducible first | assumption | exact Ne.symm (by assumption) | exact Nat.ne_of_lt (by assumption) | exact Ne.symm (Nat.ne_of_lt (by assumption)) | fail "k_ne"))
  k_with "ktr_room" => (first | exact room_a (by with_reducible assumption) rfl | exact room_b (by with_reducible assumption) rfl | exact room_c (by with_reducible assumption) rfl | fail "room")
  k_with "ktr_units" => (first | exact room_a (by with_reducible assumption) rfl | exact room_b (by with_reducible assumption) rfl | exact room_c (by with_reducible assumption) rfl | fail "room")
  trivial
theorem stopAtS {α : Type} {M : Model} {A : Around} {t : Sem α} {Q : α → Shared → Prop} {E : Value → Shared → Prop} {s : Shared} (h : Stop (wpAny M A t Q E s)) : wpAny M A t Q E s := h
example : True := by
  k_with "k_room" => (ktr_room)
  k_with "k_all" => (first | with_reducible assumption | exact all_gt (by assumption) (by ((try dsimp only); omega)))
  k_with "k_mem" => (assumption)
  k_with "eval ListComp" => ((k_here; refine stopAtS ?_))
  k_with "call type:zip" => ((k_here; refine stopAtS ?_))
  trivial
theorem len_refs {prog : Program} {w : World} {A : Around} {E : Value → Shared → Prop} {s : Shared} {h₀ : Heap} {L l : Addr} {news : List (Addr × Obj)} {xs : List Addr} {c : Nat} {Q : Value → Shared → Prop} (N : News h₀ L s.heap news) (hm : (l, ({ cls := .type "list", data := .seq (xs.map Value.ref).toArray c } : Obj)) ∈ news) (hb : xs.length ≤ 2000)
    (h : Q (.int (xs.length : Int) (s.toks + 1)) { s with toks := s.toks + 1 + 1 }) : wpAny (model prog w) A (call (.builtin "len") [.ref l]) Q E s :=
  kst_len (us := xs.map Value.ref) (k := xs.length) N hm (by rw [List.length_map]) (by omega) h
example : True := by
  k_with "call builtin:len" => ((k_here; k_dflt (refine len_refs (by k_asm) (by k_mem) (by omega) ?_)))
  trivial
theorem bools_rep : ∀ n : Nat, LSm.BoolsAre (List.replicate n (.bool true)) (List.replicate n true)
  | 0 => .nil
  | n + 1 => .cons _ (bools_rep n)
theorem all_rep : ∀ n : Nat, (List.replicate n true).all id = true
  | 0 => rfl
  | n + 1 => by rw [List.replicate_succ, List.all_cons, all_rep n]; rfl
theorem same_call (prog : Program) (w : World) (news : List (Addr × Obj)) (a b : Addr) (c1 c2 : Nat) (xs : List Addr) (ha : (a, ({ cls := .type "list", data := .seq (xs.map Value.ref).toArray c1 } : Obj)) ∈ news) (hb : (b, ({ cls := .type "list", data := .seq (xs.map Value.ref).toArray c2 } : Obj)) ∈ news) (hl : xs.length ≤ 10) :
    ComesN prog w 10 200 185 news [.ref a, .ref b] (fun v nw => v = .bool true ∧ nw = news) := by
  unfold ComesN
  intro p loose mean mg mb dp un gd cnn cs a ccd cl outer A₀ base h₀ L m s Q E B F X N T C1 C2 hk hd hu hret
  refine hideG ?_
  intro b9 hb9
  rcases cs with ⟨ck, cnm, cig, cic, cmo⟩
  refine hb9 ?_
  clear hb9 b9
  cases hk
  refine wpAny_call ?_
  k_enter
  k_steps
  show wpAny _ _ _ _ _ _
  (with_reducible rename Fr _ _ _ _ => F1; with_reducible rename News _ _ _ _ => N1)
  refine' ListComp_Z (h₀ := frBase F1) (L := frL F1) (m := frMap F1) ?a ?b ?c ?d ?e ?f ?g ?x ?y ?z ?_; (case a => rfl); (case b => with_unfolding_all rfl); (case c => decide); (case d => rfl); (case e => decide); (case f => rfl); (case g => rfl); (case x => decide); (case y => decide); (case z => decide)
  k_steps
  show wpAny _ _ _ _ _ _
  refine' ZipSame.intro ?k1 ?k2 ?k3 ?k4 ?k5 ?k6 ?k8 ?_; (case k1 => exact F1); (case k2 => exact N1); (case k3 => exact ha); (case k4 => exact hb); (case k5 => rfl); (case k6 => rfl); (case k8 => omega)
  intro D h3 tk3 F3 N3 lt3
  dsimp only [frBase, frL, frMap] at F3 N3 ⊢
  k_steps
  · refine' LSm.all_bools ?k1 ?k2 ?k3 ?k4 ?k5 ?_; (case k1 => exact F3); (case k2 => exact N3); (case k3 => rfl); (case k4 => exact News.isList N3 (.head _)); (case k5 => exact bools_rep _)
    intro h4 tk4 F4 N4
    rw [all_rep]
    k_steps
    (with_reducible rename Fr _ _ _ _ => F5; with_reducible rename News _ _ _ _ => N5)
    exact hret _ _ _ _ ⟨rfl, rfl⟩ F5 (KStt.news_of N5 fun p hp => .tail _ hp)
  all_goals exact absurd rfl (by assumption : ¬ ((xs.length : Int) = (xs.length : Int)))
end Lw
end
example : True := by k_with_none; w_top off; trivial
section
open PySem PySem.W PyProof.Rows
namespace Lw
example : True := by
  k_with_none
  k_with "omega" => ((fail_if_success (fail_if_success (omega (config := {})))); first | lia | omega (config := {}))
  k_with "callWith ref" => ((k_here; k_dflt (refine' callWith_K ?kAw90 ?kBw90 ?_; (case kAw90 => k_asm); (case kBw90 => k_is); k_whole)))
  k_with "eval Name" => ((k_here; (fail_if_success (with_reducible show wpAny _ _ (eval (Expr.Name _ _) (compEnvC _ _ _ _)) _ _ _)); k_dflt (first | (refine' nameX_L ?Fw91 ?vw91 ?_ ?aw91 ?bw91; (case bw91 => rfl); (case Fw91 => k_asm); (case aw91 => rfl); (case vw91 => rfl); k_whole) | (refine' nameX_C ?Nw92 ?cw92 ?mw92 ?dw92 ?_ ?aw92 ?bw92; (case bw92 => rfl); (case aw92 => rfl); (case Nw92 => k_asm); (case cw92 => rfl); (case mw92 => k_mem); (case dw92 => k_asm); k_whole) | (refine' nameX_K ?Fw93 ?Xw93 ?Tw93 ?ew93 ?_ ?aw93 ?bw93; (case bw93 => rfl); (case Fw93 => k_asm); (case Xw93 => k_asm); (case Tw93 => k_asm); (case aw93 => rfl); (case ew93 => k_is); k_whole) | (refine' nameX_B ?Fw94 ?Xw94 ?Tw94 ?ew94 ?vw94 ?nw94 ?_ ?aw94 ?bw94; (case bw94 => rfl); (case Fw94 => k_asm); (case Xw94 => k_asm); (case Tw94 => k_asm); (case aw94 => rfl); (case ew94 => k_is); (case vw94 => boot_fast); (case nw94 => decide); k_whole))))
  k_with "execs cons" => ((k_here; refine execs_G ?_; intro G9w hG9w))
  k_with "Go" => (((try dsimp only); first | (refine go_next_S (by with_reducible assumption) ?_; intro tSw) | refine go_ret (by with_reducible assumption) ?_ | refine go_cont (by with_reducible assumption) ?_ | refine go_brk (by with_reducible assumption) ?_))
  k_with "k_ne" => ((with_reducible first | assumption | exact Ne.symm (by assumption) | exact Nat.ne_of_lt (by assumption) | exact Ne.symm (Nat.ne_of_lt (by assumption)) | fail "k_ne"))
  k_with "ktr_room" => (first | exact room_a (by with_reducible assumption) rfl | exact room_b (by with_reducible assumption) rfl | exact room_c (by with_reducible assumption) rfl | fail "room")
  k_with "ktr_units" => (first | exact room_a (by with_reducible assumption) rfl | exact room_b (by with_reducible assumption) rfl | exact room_c (by with_reducible assumption) rfl | fail "room")
  k_with "k_room" => (ktr_room)
  k_with "k_all" => (first | with_reducible assumption | exact all_gt (by assumption) (by ((try dsimp only); omega)))
  k_with "k_all" => (exact all_gtT (by assumption) (by ((try dsimp only); omega)))
  k_with "k_mem" => (assumption)
  k_with "eval ListComp" => ((k_here; k_dflt (refine ListComp_V (by k_asm) (by rfl) (by decide) (by rfl) (by decide) (by rfl) ?_)))
  k_with "exec Assign cons ListComp" => ((k_here; k_dflt (refine Assign_ListComp_V (by k_asm) (by rfl) (by with_unfolding_all rfl) (by with_unfolding_all rfl) (by decide) (by rfl) (by decide) (by rfl) (by rfl) (by rfl) ?_)))
  k_with "eval Name" => ((k_here; (with_reducible show wpAny _ _ (eval (Expr.Name _ _) (compEnvC _ _ _ _)) _ _ _); k_dflt (refine ld_cell (by k_asm) (by rfl) (by k_mem) (by assumption) ?_)))
  k_with "subscriptTail" => ((k_here; (with_reducible show wpAny _ _ (subscriptTail _ _ (Value.ref _) (Value.int _ _)) _ _ _); k_dflt (refine item_val' (by k_asm) (by k_mem) (by with_reducible assumption) ?_)))
  k_with "call ref" => ((k_here; refine stopAt ?_))
  k_with "eval DictComp" => ((k_here; refine stopAt ?_))
  k_with "call type:zip" => ((k_here; refine stopAt ?_))
  trivial
set_option genInjectivity false in
set_option genSizeOf false in
structure RowI where
  a : Addr
  c : Nat
  vs : List Value
  ns : List Int
noncomputable abbrev RowI.obj (r : RowI) : Obj := { cls := .type "list", data := .seq r.vs.toArray r.c }
noncomputable def RowI.In (r : RowI) (n : Nat) (news : List (Addr × Obj)) : Prop := (r.a, r.obj) ∈ news ∧ IntsAre r.vs r.ns ∧ r.ns.length = n
theorem nw_mem3 {g h : Heap} {L : Addr} {a b c d : Addr × Obj} {l : List (Addr × Obj)} (_ : News g L h (a :: b :: c :: d :: l)) : d ∈ a :: b :: c :: d :: l := .tail _ (.tail _ (.tail _ (.head _)))
theorem row_item {rws : List RowI} {i : Nat} {v : Value} (h : (rws.map fun r => Value.ref r.a).toArray[i]? = some v) : ∃ r, rws[i]? = some r ∧ v = .ref r.a := by
  simp only [List.getElem?_toArray, List.getElem?_map, Option.map_eq_some_iff] at h
  obtain ⟨q, h1, h2⟩ := h
  exact ⟨q, h1, h2.symm⟩
noncomputable def TabsOk (prog : Program) (w : World) (ls : List (Str × Tok)) (rws : List RowI) (i : Nat) (own : List (Addr × Obj)) : Prop :=
  own.length = i ∧ ∀ (k : Nat) (p : Addr × Obj) (r : RowI), own[k]? = some p → rws[k]? = some r → p.2.IsDictOf (strKind prog w) (kvsOf (ls.zip r.vs)) ∧ (p.1 == sysModules) = false
theorem tabs_next {prog : Program} {w : World} {ls : List (Str × Tok)} {rws : List RowI} {i : Nat} {own : List (Addr × Obj)} {p : Addr × Obj} {r : RowI} (h : TabsOk prog w ls rws i own) (hr : rws[i]? = some r) (h1 : p.2.IsDictOf (strKind prog w) (kvsOf (ls.zip r.vs))) (h2 : (p.1 == sysModules) = false) : TabsOk prog w ls rws (i + 1) (own ++ [p]) := by
  refine ⟨by simp [h.1], fun k p' r' hp hr' => ?_⟩
  by_cases c : k < i
  · rw [List.getElem?_append_left (by rw [h.1]; exact c)] at hp
    exact h.2 k p' r' hp hr'
  · rw [List.getElem?_append_right (by rw [h.1]; omega)] at hp
    have hk : k - own.length = 0 := by
      have := (List.getElem?_eq_some_iff.mp hp).1
      simp at this
      omega
    rw [hk] at hp
    simp at hp
    subst hp
    have hki : k = i := by have := h.1; omega
    subst hki
    rw [hr] at hr'
    cases hr'
    exact ⟨h1, h2⟩
theorem off3_snoc {I C D : Addr} {own BB : List (Addr × Obj)} {p : Addr × Obj} (h : LCg.Off3 I C D (own ++ BB)) (h1 : p.1 ≠ I) (h2 : p.1 ≠ C) (h3 : p.1 ≠ D) : LCg.Off3 I C D ((own ++ [p]) ++ BB) := LCg.Off3.of fun q hq => by
  have hm := h.mem
  rcases List.mem_append.mp hq with hq | hq
  · rcases List.mem_append.mp hq with hq | hq
    · exact hm q (List.mem_append_left _ hq)
    · rw [List.mem_singleton.mp hq]; exact ⟨h1, h2, h3⟩
  · exact hm q (List.mem_append_right _ hq)
theorem news_snoc {g h : Heap} {L : Addr} {p a b c : Addr × Obj} {own BB : List (Addr × Obj)} (N : News g L h (p :: a :: b :: c :: (own ++ BB))) : News g L h (a :: b :: c :: ((own ++ [p]) ++ BB)) := KStt.news_of N fun q hq => by
  simp only [List.mem_cons, List.mem_append, List.append_assoc, List.not_mem_nil, or_false] at hq ⊢
  rcases hq with hq | hq | hq | hq | hq | hq
  · exact .inr (.inl hq)
  · exact .inr (.inr (.inl hq))
  · exact .inr (.inr (.inr (.inl hq)))
  · exact .inr (.inr (.inr (.inr (.inl hq))))
  · exact .inl hq
  · exact .inr (.inr (.inr (.inr (.inr hq))))
theorem isDict_data {prog : Program} {w : World} {o : Obj} {kvs : List (Str × Value)} (h : o.IsDictOf (strKind prog w) kvs) : ∃ es ep, o.data = .dict es ep := by
  obtain ⟨es, ep, _, h, _⟩ := h
  exact ⟨es, ep, h⟩
theorem tabs_data {prog : Program} {w : World} {ls : List (Str × Tok)} {rws : List RowI} {own : List (Addr × Obj)} (h : TabsOk prog w ls rws 5 own) (h5 : rws.length = 5) : ∀ p ∈ own, ∃ es ep, p.2.data = .dict es ep := fun p hp => by
  obtain ⟨k, hk⟩ := List.mem_iff_getElem?.mp hp
  have hlt := (List.getElem?_eq_some_iff.mp hk).1
  rw [h.1] at hlt
  exact isDict_data (h.2 k p _ hk (List.getElem?_eq_getElem (by omega))).1
theorem mrg_mid {g h : Heap} {L : Addr} {D a b c d e : Addr × Obj} {own BB R0 : List (Addr × Obj)} (N : News g L h (D :: (own ++ a :: b :: c :: d :: e :: BB))) (hR : R0 = own ++ BB) : News g L h (D :: a :: b :: c :: d :: e :: R0) := KStt.news_of N fun p hp => by
  subst hR
  simp only [List.mem_cons, List.mem_append] at hp ⊢
  grind
theorem mrg_apart {g h : Heap} {L c : Addr} {D : Addr × Obj} {o : Obj} {v : Option Value} {own BBs BB R0 : List (Addr × Obj)} (N : News g L h (D :: (own ++ BBs))) (hd : ∀ p ∈ own, ∃ es ep, p.2.data = .dict es ep) (hR : R0 = own ++ BB) (hb : ∀ p ∈ BB, @Ne Nat p.1 c) (hm : (c, o) ∈ BBs) (hc : o.data = .cell v) : ∀ p ∈ R0, p.1 ≠ c := fun p hp => by
  subst hR
  rcases List.mem_append.mp hp with hp | hp
  · refine apart_obj N (o := p.2) (o' := o) (.tail _ (List.mem_append_left _ hp)) (.tail _ (List.mem_append_right _ hm)) fun e => ?_
    obtain ⟨es, ep, h⟩ := hd p hp
    rw [e, hc] at h
    cases h
  · exact hb p hp
theorem mrg_apartL {g h : Heap} {L c : Addr} {D : Addr × Obj} {vs : Array Value} {n : Nat} {own BBs BB R0 : List (Addr × Obj)} (N : News g L h (D :: (own ++ BBs))) (hd : ∀ p ∈ own, ∃ es ep, p.2.data = .dict es ep) (hR : R0 = own ++ BB) (hb : ∀ p ∈ BB, @Ne Nat p.1 c) (hm : (c, ({ cls := .type "list", data := .seq vs n } : Obj)) ∈ BBs) : ∀ p ∈ R0, p.1 ≠ c := fun p hp => by
  subst hR
  rcases List.mem_append.mp hp with hp | hp
  · refine apart_obj N (o := p.2) (.tail _ (List.mem_append_left _ hp)) (.tail _ (List.mem_append_right _ hm)) fun e => ?_
    obtain ⟨es, ep, h⟩ := hd p hp
    rw [e] at h
    cases h
  · exact hb p hp
theorem TabB.mem156 {tb : List (Addr × Obj)} (h : TabB tb) : ∃ o, (156, o) ∈ tb := by
  rcases h with rfl | ⟨c, oc, vs, t, rfl, _⟩
  · exact ⟨_, .head _⟩
  · exact ⟨_, .tail _ (.head _)⟩
theorem TabB.fields156 {tb : List (Addr × Obj)} (h : TabB tb) : ∀ o, (156, o) ∈ tb → ∃ vs, o.data = .fields vs := fun o ho => by
  rcases h with rfl | ⟨c, oc, vs, t, rfl, h1, _⟩
  · simp at ho
    subst ho
    exact ⟨_, rfl⟩
  · rcases List.mem_cons.mp ho with h | h
    · cases h
      exact ⟨_, h1⟩
    · simp at h
      subst h
      exact ⟨_, rfl⟩
noncomputable abbrev mrgB2 {g h : Heap} {L : Addr} {D a b c d e : Addr × Obj} {R0 : List (Addr × Obj)} (_ : News g L h (D :: a :: b :: c :: d :: e :: R0)) (l : List (Addr × Obj)) : List (Addr × Obj) := a :: D :: b :: c :: d :: e :: l
theorem mrg_b6 {g h : Heap} {L : Addr} {D a b c d e : Addr × Obj} {own tb rest R0 B2 : List (Addr × Obj)} {o : Obj} {N : News g L h (D :: a :: b :: c :: d :: e :: R0)} (hB2 : B2 = mrgB2 N (own ++ rest)) (N' : News g L h (D :: a :: b :: c :: d :: e :: R0)) (hR : R0 = own ++ (tb ++ rest)) (hd : ∀ p ∈ own, ∃ es ep, p.2.data = .dict es ep) (hm : (156, o) ∈ tb) (ht : TabB tb) (hr : ∀ p ∈ rest, p.1 ≠ 156)
    (ha : @Ne Nat a.1 156) (hD : @Ne Nat D.1 156) (hb : @Ne Nat b.1 156) (hc : @Ne Nat c.1 156) (hdd : @Ne Nat d.1 156) (he : @Ne Nat e.1 156) : ∀ p ∈ B2, p.1 ≠ 156 := fun p hp => by
  subst hB2
  rcases List.mem_cons.mp hp with rfl | hp
  · exact ha
  rcases List.mem_cons.mp hp with rfl | hp
  · exact hD
  rcases List.mem_cons.mp hp with rfl | hp
  · exact hb
  rcases List.mem_cons.mp hp with rfl | hp
  · exact hc
  rcases List.mem_cons.mp hp with rfl | hp
  · exact hdd
  rcases List.mem_cons.mp hp with rfl | hp
  · exact he
  rcases List.mem_append.mp hp with hq | hq
  · have up : ∀ q ∈ own ++ (tb ++ rest), q ∈ D :: a :: b :: c :: d :: e :: R0 := fun q hq => hR ▸ .tail _ (.tail _ (.tail _ (.tail _ (.tail _ (.tail _ hq)))))
    refine apart_obj N' (o := p.2) (o' := o) (up _ (List.mem_append_left _ hq)) (up _ (List.mem_append_right _ (List.mem_append_left _ hm))) fun q => ?_
    obtain ⟨es, ep, h⟩ := hd p hq
    obtain ⟨vs, h'⟩ := ht.fields156 o hm
    rw [q, h'] at h
    cases h
  · exact hr p hq
section
variable {g h : Heap} {L : Addr} {D a b c d e : Addr × Obj} {R0 B2 l : List (Addr × Obj)}
theorem mrg_in0 (N : News g L h (D :: a :: b :: c :: d :: e :: R0)) (hB : B2 = mrgB2 N l) : a ∈ B2 := by rw [hB]; exact .head _
theorem mrg_in1 (N : News g L h (D :: a :: b :: c :: d :: e :: R0)) (hB : B2 = mrgB2 N l) : D ∈ B2 := by rw [hB]; exact .tail _ (.head _)
theorem mrg_in2 (N : News g L h (D :: a :: b :: c :: d :: e :: R0)) (hB : B2 = mrgB2 N l) : b ∈ B2 := by rw [hB]; exact .tail _ (.tail _ (.head _))
theorem mrg_in3 (N : News g L h (D :: a :: b :: c :: d :: e :: R0)) (hB : B2 = mrgB2 N l) : c ∈ B2 := by rw [hB]; exact .tail _ (.tail _ (.tail _ (.head _)))
theorem mrg_in4 (N : News g L h (D :: a :: b :: c :: d :: e :: R0)) (hB : B2 = mrgB2 N l) : d ∈ B2 := by rw [hB]; exact .tail _ (.tail _ (.tail _ (.tail _ (.head _))))
theorem mrg_in6 (N : News g L h (D :: a :: b :: c :: d :: e :: R0)) (hB : B2 = mrgB2 N l) : e ∈ B2 := by rw [hB]; exact .tail _ (.tail _ (.tail _ (.tail _ (.tail _ (.head _)))))
theorem mrg_start {own tb rest : List (Addr × Obj)} (N : News g L h (D :: a :: b :: c :: d :: e :: R0)) (hB : B2 = mrgB2 N (own ++ rest)) (hR : R0 = own ++ (tb ++ rest)) : News g L h (tb ++ ([] ++ B2)) := KStt.news_of N fun p hp => by
  subst hB hR
  simp only [mrgB2, List.mem_cons, List.mem_append, List.nil_append] at hp ⊢
  grind
end
inductive RulAt (prog : Program) (w : World) (nt : Addr) (led : List (Addr × Obj)) (x : Addr) (v : Value) (j : Int) (tj : Tok) (rt : Addr) : Prop
  | mk (d U RL f t1 t2 t3 t4 t5 t6 fs : _) (zz1 : (x, instObj 52 d) ∈ led) (zz2 : (d, ruleD w.params U RL f v t1 t2 t3 t4 t5 t6) ∈ led) (zz3 : AskC prog w f fs j tj rt nt) (zz4 : ∀ p ∈ fs, p ∈ led) : RulAt prog w nt led x v j tj rt
set_option genInjectivity false in
set_option genSizeOf false in
structure RulX where
  tb : List (Addr × Obj)
  own : List (Addr × Obj)
  xs : List (Addr × Tok)
noncomputable def RulsOk (prog : Program) (w : World) (nt : Addr) (vv : List Value) (tabs : List (Addr × Obj)) (i : Nat) (d : RulX) : Prop :=
  TabB d.tb ∧ (∀ p ∈ d.own, p.1 ≠ 156) ∧ (∀ p ∈ d.own, p.1 ≠ nt) ∧ (∀ p ∈ d.tb, p.1 ≠ nt) ∧ d.xs.length = i ∧
    ∀ (k : Nat) (x : Addr × Tok) (v : Value) (rt : Addr × Obj), d.xs[k]? = some x → vv[k]? = some v → tabs[k]? = some rt → RulAt prog w nt d.own x.1 v (0 + (k : Int)) x.2 rt.1
section
variable {prog : Program} {w : World} {nt : Addr} {vv : List Value} {tabs : List (Addr × Obj)} {i : Nat} {d : RulX} {I C Da : Addr} {oI oC oD ont : Obj} {B2 : List (Addr × Obj)}
theorem rul_156 (hok : RulsOk prog w nt vv tabs i d) (off : LCg.Off3 I C Da (d.tb ++ (d.own ++ B2))) (hB : ∀ p ∈ B2, p.1 ≠ 156) : ∀ p ∈ (I, oI) :: (C, oC) :: (Da, oD) :: (d.own ++ B2), p.1 ≠ 156 := fun p hp => by
  obtain ⟨o, ho⟩ := hok.1.mem156
  have h := off.mem _ (List.mem_append_left _ ho)
  rcases List.mem_cons.mp hp with rfl | hp
  · exact Ne.symm h.1
  rcases List.mem_cons.mp hp with rfl | hp
  · exact Ne.symm h.2.1
  rcases List.mem_cons.mp hp with rfl | hp
  · exact Ne.symm h.2.2
  rcases List.mem_append.mp hp with hp | hp
  · exact hok.2.1 p hp
  · exact hB p hp
theorem rul_in {g h : Heap} {L : Addr} {a b c : Addr × Obj} {tb l : List (Addr × Obj)} (N : News g L h (a :: b :: c :: (tb ++ l))) : News g L h (tb ++ (a :: b :: c :: l)) := KStt.news_of N fun p hp => by
  simp only [List.mem_cons, List.mem_append] at hp ⊢
  grind
theorem rul_out {g h : Heap} {L : Addr} {x y a b c : Addr × Obj} {fs tb own B : List (Addr × Obj)} (N : News g L h (x :: y :: (fs ++ (tb ++ (a :: b :: c :: (own ++ B)))))) : News g L h (a :: b :: c :: (tb ++ ((x :: y :: (fs ++ own)) ++ B))) := KStt.news_of N fun p hp => by
  simp only [List.mem_cons, List.mem_append, List.cons_append, List.append_assoc] at hp ⊢
  grind
variable {x dd f rt : Addr} {ox od : Obj} {fs tb' : List (Addr × Obj)} {v0 : Value} {p0 : Addr × Obj} {t0 : Tok}
theorem RulAt.mono {led led' : List (Addr × Obj)} {v : Value} {j : Int} {tj : Tok} (h : RulAt prog w nt led x v j tj rt) (hs : ∀ p ∈ led, p ∈ led') : RulAt prog w nt led' x v j tj rt := by
  obtain ⟨d, U, RL, f, t1, t2, t3, t4, t5, t6, fs, h1, h2, h3, h4⟩ := h
  exact ⟨d, U, RL, f, t1, t2, t3, t4, t5, t6, fs, hs _ h1, hs _ h2, h3, fun p hp => hs p (h4 p hp)⟩
theorem rul_next {U RL : Addr} {t1 t2 t3 t4 t5 t6 : Tok} (hok : RulsOk prog w nt vv tabs i d) (hv0 : vv[i]? = some v0) (hp0 : tabs[i]? = some p0) (ht' : TabB tb') (ask : AskC prog w f fs (0 + (i : Int)) t0 p0.1 nt)
    (e1 : ∀ p ∈ (I, oI) :: (C, oC) :: (Da, oD) :: (d.own ++ B2), p.1 ≠ x) (e2 : ∀ p ∈ (I, oI) :: (C, oC) :: (Da, oD) :: (d.own ++ B2), p.1 ≠ dd) (e3 : ∀ q ∈ fs, q ∈ tb' ∨ ∀ p ∈ (I, oI) :: (C, oC) :: (Da, oD) :: (d.own ++ B2), p.1 ≠ q.1) (e4 : ∀ q ∈ fs, q.1 ≠ 156)
    (e5 : ∀ q ∈ tb', q ∈ d.tb ∨ q.1 = 156 ∨ ∀ p ∈ (I, oI) :: (C, oC) :: (Da, oD) :: (d.own ++ B2), p.1 ≠ q.1) (x6 : @Ne Nat x 156) (d6 : @Ne Nat dd 156) (mnt : (nt, ont) ∈ B2) (hB6 : ∀ p ∈ B2, p.1 ≠ 156) :
    RulsOk prog w nt vv tabs (i + 1) ⟨tb', (x, instObj 52 dd) :: (dd, ruleD w.params U RL f v0 t1 t2 t3 t4 t5 t6) :: (fs ++ d.own), d.xs ++ [(x, t0)]⟩ := by
  obtain ⟨k1, k2, k3, k4, k5, k6⟩ := hok
  have mr : (nt, ont) ∈ (I, oI) :: (C, oC) :: (Da, oD) :: (d.own ++ B2) := .tail _ (.tail _ (.tail _ (List.mem_append_right _ mnt)))
  have htb : ∀ q ∈ tb', q.1 ≠ nt := fun q hq => by
    rcases e5 q hq with h | h | h
    · exact k4 q h
    · rw [h]; exact Ne.symm (hB6 _ mnt)
    · exact Ne.symm (h _ mr)
  refine ⟨ht', fun p hp => ?_, fun p hp => ?_, htb, by simp [k5], fun k xk v rt' hx hv hrt => ?_⟩
  · rcases List.mem_cons.mp hp with rfl | hp
    · exact x6
    rcases List.mem_cons.mp hp with rfl | hp
    · exact d6
    rcases List.mem_append.mp hp with hp | hp
    · exact e4 p hp
    · exact k2 p hp
  · rcases List.mem_cons.mp hp with rfl | hp
    · exact Ne.symm (e1 _ mr)
    rcases List.mem_cons.mp hp with rfl | hp
    · exact Ne.symm (e2 _ mr)
    rcases List.mem_append.mp hp with hp | hp
    · rcases e3 p hp with h | h
      · exact htb p h
      · exact Ne.symm (h _ mr)
    · exact k3 p hp
  · by_cases c : k < i
    · rw [List.getElem?_append_left (by rw [k5]; exact c)] at hx
      exact (k6 k xk v rt' hx hv hrt).mono fun p hp => .tail _ (.tail _ (List.mem_append_right _ hp))
    · rw [List.getElem?_append_right (by rw [k5]; omega)] at hx
      have hk : k - d.xs.length = 0 := by
        have := (List.getElem?_eq_some_iff.mp hx).1
        simp at this
        omega
      rw [hk] at hx
      simp at hx
      subst hx
      have hki : k = i := by omega
      subst hki
      rw [hv0] at hv
      rw [hp0] at hrt
      cases hv
      cases hrt
      exact ⟨dd, U, RL, f, t1, t2, t3, t4, t5, t6, fs, .head _, .tail _ (.head _), ask, fun p hp => .tail _ (.tail _ (List.mem_append_left _ hp))⟩
theorem rul_off (off : LCg.Off3 I C Da (d.tb ++ (d.own ++ B2))) (_hok : RulsOk prog w nt vv tabs i d)
    (e1 : ∀ p ∈ (I, oI) :: (C, oC) :: (Da, oD) :: (d.own ++ B2), p.1 ≠ x) (e2 : ∀ p ∈ (I, oI) :: (C, oC) :: (Da, oD) :: (d.own ++ B2), p.1 ≠ dd) (e3 : ∀ q ∈ fs, q ∈ tb' ∨ ∀ p ∈ (I, oI) :: (C, oC) :: (Da, oD) :: (d.own ++ B2), p.1 ≠ q.1)
    (e5 : ∀ q ∈ tb', q ∈ d.tb ∨ q.1 = 156 ∨ ∀ p ∈ (I, oI) :: (C, oC) :: (Da, oD) :: (d.own ++ B2), p.1 ≠ q.1) (hr6 : ∀ p ∈ (I, oI) :: (C, oC) :: (Da, oD) :: (d.own ++ B2), p.1 ≠ 156) : LCg.Off3 I C Da (tb' ++ (((x, ox) :: (dd, od) :: (fs ++ d.own)) ++ B2)) := LCg.Off3.of fun q hq => by
  have hm := off.mem
  have far : ∀ {y : Addr}, (∀ p ∈ (I, oI) :: (C, oC) :: (Da, oD) :: (d.own ++ B2), p.1 ≠ y) → y ≠ I ∧ y ≠ C ∧ y ≠ Da := fun h => ⟨Ne.symm (h _ (.head _)), Ne.symm (h _ (.tail _ (.head _))), Ne.symm (h _ (.tail _ (.tail _ (.head _))))⟩
  have htb : ∀ q ∈ tb', q.1 ≠ I ∧ q.1 ≠ C ∧ q.1 ≠ Da := fun q hq => by
    rcases e5 q hq with h | h | h
    · exact hm q (List.mem_append_left _ h)
    · rw [h]; exact far hr6
    · exact far h
  rcases List.mem_append.mp hq with hq | hq
  · exact htb q hq
  rcases List.mem_append.mp hq with hq | hq
  · rcases List.mem_cons.mp hq with rfl | hq
    · exact far e1
    rcases List.mem_cons.mp hq with rfl | hq
    · exact far e2
    rcases List.mem_append.mp hq with hq | hq
    · rcases e3 q hq with h | h
      · exact htb q h
      · exact far h
    · exact hm q (List.mem_append_right _ (List.mem_append_left _ hq))
  · exact hm q (List.mem_append_right _ (List.mem_append_right _ hq))
end
theorem item5 {l : List Value} (h : l.length = 5) {k : Nat} {k' : Int} {v : Value} (hk : k' = (k : Int)) (hv : l[k]? = some v) : ItemIs l k' v := by
  have := (List.getElem?_eq_some_iff.mp hv).1
  exact ⟨by omega, k, .inl ⟨by omega, by omega, by omega⟩, hv⟩
theorem five_of {α : Type} {l : List α} (h : l.length = 5) : ∃ a b c d e, l = [a, b, c, d, e] := by
  match l, h with
  | [a, b, c, d, e], _ => exact ⟨a, b, c, d, e, rfl⟩
section
variable {g h : Heap} {L : Addr} {D a b c d e : Addr × Obj} {R0 B2 l R : List (Addr × Obj)}
noncomputable abbrev mrgT (_ : News g L h (D :: a :: b :: c :: d :: e :: R0)) (l : List (Addr × Obj)) : List (Addr × Obj) := D :: b :: c :: d :: e :: l
theorem mrg_R {g' h' : Heap} {x : Addr × Obj} {tb own : List (Addr × Obj)} {N : News g L h (D :: a :: b :: c :: d :: e :: R0)} (N' : News g' L h' (x :: (tb ++ (own ++ B2)))) (hB : B2 = mrgB2 N l) (hR : R = x :: (tb ++ (own ++ mrgT N l))) : News g' L h' (a :: R) := KStt.news_of N' fun p hp => by
  subst hB hR
  simp only [mrgT, mrgB2, List.mem_cons, List.mem_append] at hp ⊢
  grind
theorem mrg_RB {x : Addr × Obj} {tb own : List (Addr × Obj)} {N : News g L h (D :: a :: b :: c :: d :: e :: R0)} (hR : R = x :: (tb ++ (own ++ mrgT N l))) (hB : B2 = mrgB2 N l) : ∀ q ∈ B2, q.1 ≠ a.1 → q ∈ R := fun q hq hn => by
  subst hB hR
  simp only [mrgT, mrgB2, List.mem_cons, List.mem_append] at hq ⊢
  grind
theorem mrg_Rn {prog : Program} {w : World} {vv : List Value} {tabs : List (Addr × Obj)} {i : Nat} {dx : RulX} {x : Addr × Obj} {tb own rest : List (Addr × Obj)} {N : News g L h (D :: a :: b :: c :: d :: e :: R0)} (hR : R = x :: (dx.tb ++ (dx.own ++ mrgT N (own ++ rest)))) (_hB : B2 = mrgB2 N (own ++ rest)) (hok : RulsOk prog w a.1 vv tabs i dx)
    (hx : x.1 ≠ a.1) (hD : @Ne Nat a.1 D.1) (hb : @Ne Nat b.1 a.1) (hc : @Ne Nat c.1 a.1) (hd : @Ne Nat d.1 a.1) (he : @Ne Nat e.1 a.1) (hR0 : R0 = own ++ (tb ++ rest)) (h0 : ∀ p ∈ R0, p.1 ≠ a.1) (hr : ∀ p ∈ rest, p.1 ≠ a.1) : ∀ p ∈ R, p.1 ≠ a.1 := fun p hp => by
  subst hR
  rcases List.mem_cons.mp hp with rfl | hp
  · exact hx
  rcases List.mem_append.mp hp with hp | hp
  · exact hok.2.2.2.1 p hp
  rcases List.mem_append.mp hp with hp | hp
  · exact hok.2.2.1 p hp
  rcases List.mem_cons.mp hp with rfl | hp
  · exact Ne.symm hD
  rcases List.mem_cons.mp hp with rfl | hp
  · exact hb
  rcases List.mem_cons.mp hp with rfl | hp
  · exact hc
  rcases List.mem_cons.mp hp with rfl | hp
  · exact hd
  rcases List.mem_cons.mp hp with rfl | hp
  · exact he
  rcases List.mem_append.mp hp with hq | hq
  · exact h0 p (hR0 ▸ List.mem_append_left _ hq)
  · exact hr p hq
end
noncomputable def RecAt (P : Params) (led : List (Addr × Obj)) (x : Addr) (vs : List Value) : Prop :=
  ∃ d U RL t1 t2 t3 t4 c cu, (x, instObj 52 d) ∈ led ∧ (d, recD P U RL t1 t2 t3 t4) ∈ led ∧ (U, listOf #[] cu) ∈ led ∧ (RL, ({ cls := .type "list", data := .seq vs.toArray c } : Obj)) ∈ led
theorem RecAt.mono {P : Params} {led led' : List (Addr × Obj)} {x : Addr} {vs : List Value} (h : RecAt P led x vs) (hs : ∀ p ∈ led, p ∈ led') : RecAt P led' x vs := by
  obtain ⟨d, U, RL, t1, t2, t3, t4, c, cu, h1, h2, h3, h4⟩ := h
  exact ⟨d, U, RL, t1, t2, t3, t4, c, cu, hs _ h1, hs _ h2, hs _ h3, hs _ h4⟩
theorem rec_out {P : Params} {nt : Addr} {o : Obj} {R news nw : List (Addr × Obj)} {vs : List Value} {val : Value} (h : RecOut P news vs val nw) (hs : ∀ p ∈ (nt, o) :: R, p ∈ news) (hR : ∀ p ∈ R, p.1 ≠ nt) :
    ∃ x R', val = .ref x ∧ (∀ p ∈ (nt, o) :: R', p ∈ nw) ∧ RecAt P R' x vs ∧ (∀ p ∈ R, p ∈ R') ∧ ∀ p ∈ R', p.1 ≠ nt := by
  obtain ⟨x, d, U, RL, t1, t2, t3, t4, c, cu, rfl, rfl, h1, h2, h3, h4, _, _, _⟩ := h
  have mn := hs _ (.head _)
  refine ⟨x, (x, instObj 52 d) :: (d, recD P U RL t1 t2 t3 t4) :: (U, listOf #[] cu) :: (RL, ({ cls := .type "list", data := .seq vs.toArray c } : Obj)) :: R, rfl, fun p hp => ?_, ⟨d, U, RL, t1, t2, t3, t4, c, cu, .head _, .tail _ (.head _), .tail _ (.tail _ (.head _)), .tail _ (.tail _ (.tail _ (.head _)))⟩, fun p hp => .tail _ (.tail _ (.tail _ (.tail _ hp))), fun p hp => ?_⟩
  · rcases List.mem_cons.mp hp with rfl | hp
    · exact .tail _ (.tail _ (.tail _ (.tail _ mn)))
    rcases List.mem_cons.mp hp with rfl | hp
    · exact .head _
    rcases List.mem_cons.mp hp with rfl | hp
    · exact .tail _ (.head _)
    rcases List.mem_cons.mp hp with rfl | hp
    · exact .tail _ (.tail _ (.head _))
    rcases List.mem_cons.mp hp with rfl | hp
    · exact .tail _ (.tail _ (.tail _ (.head _)))
    · exact .tail _ (.tail _ (.tail _ (.tail _ (hs p (.tail _ hp)))))
  · rcases List.mem_cons.mp hp with rfl | hp
    · exact Ne.symm (h1 _ mn)
    rcases List.mem_cons.mp hp with rfl | hp
    · exact Ne.symm (h2 _ mn)
    rcases List.mem_cons.mp hp with rfl | hp
    · exact Ne.symm (h3 _ mn)
    rcases List.mem_cons.mp hp with rfl | hp
    · exact Ne.symm (h4 _ mn)
    · exact hR p hp
set_option genInjectivity false in
set_option genSizeOf false in
structure RU where
  x : Addr
  tj : Tok
  v : Value
  tv : Bool
  ns : List Int
  j : Nat
noncomputable def RU.at (k : Nat) (u : RU) : RI := ⟨u.x, u.v, u.tv, 0 + (u.j : Int), u.tj, u.ns.getD k 0⟩
noncomputable def nisFrom (us : List RU) : Nat → List (Str × Tok) → List NI
  | _, [] => []
  | k, q :: r => ⟨q.1, q.2, us.map (RU.at k)⟩ :: nisFrom us (k + 1) r
theorem nis_map {us : List RU} : ∀ {ls : List (Str × Tok)} {k : Nat}, ((nisFrom us k ls).map fun n => Value.str n.nm n.t) = strValues ls
  | [], _ => rfl
  | q :: r, k => by
    show Value.str q.1 q.2 :: ((nisFrom us (k + 1) r).map fun n => Value.str n.nm n.t) = _
    rw [nis_map]
    rfl
theorem nis_at {us : List RU} : ∀ {ls : List (Str × Tok)} {k i : Nat}, (nisFrom us k ls)[i]? = (ls[i]?).map fun q => (⟨q.1, q.2, us.map (RU.at (k + i))⟩ : NI)
  | [], _, _ => rfl
  | q :: r, k, 0 => rfl
  | q :: r, k, i + 1 => by
    show (nisFrom us (k + 1) r)[i]? = _
    rw [nis_at, show k + 1 + i = k + (i + 1) by omega]
    rfl
theorem nis_length {us : List RU} : ∀ {ls : List (Str × Tok)} {k : Nat}, (nisFrom us k ls).length = ls.length
  | [], _ => rfl
  | _ :: _, _ => congrArg (· + 1) nis_length
theorem nis_mem {us : List RU} {ls : List (Str × Tok)} {n : NI} (h : n ∈ nisFrom us 0 ls) : ∃ (i : Nat) (q : Str × Tok), ls[i]? = some q ∧ n = ⟨q.1, q.2, us.map (RU.at i)⟩ := by
  obtain ⟨i, hi⟩ := List.mem_iff_getElem?.mp h
  rw [nis_at, Option.map_eq_some_iff] at hi
  obtain ⟨q, h1, h2⟩ := hi
  rw [Nat.zero_add] at h2
  exact ⟨i, q, h1, h2.symm⟩
theorem okV_handed {v : Value} (h : okV v = true) : handedIn v = true := by cases v <;> first | rfl | (simp [okV] at h)
noncomputable def VerdIn (prog : Program) (w : World) (rest : List (Addr × Obj)) (vv : List Value) (tvs : List Bool) : Prop := ∀ (k : Nat) (v : Value), vv[k]? = some v → TruthV prog w v (tvs.getD k false) rest ∧ okV v = true
noncomputable def RowsIn (rest : List (Addr × Obj)) (ls : List (Str × Tok)) (rws : List RowI) : Prop := ∀ r ∈ rws, r.In ls.length rest ∧ (∀ a ∈ r.ns, -1 ≤ a) ∧ ∀ (i j : Nat) (p q : Str × Tok), ls[i]? = some p → ls[j]? = some q → p.1 = q.1 → r.ns.getD i 0 = r.ns.getD j 0
noncomputable def ruOf (vv : List Value) (tvs : List Bool) (rws : List RowI) (xs : List (Addr × Tok)) (k : Nat) : RU := ⟨(xs.getD k (0, 0)).1, (xs.getD k (0, 0)).2, vv.getD k .none, tvs.getD k false, (rws.map RowI.ns).getD k [], k⟩
theorem ru_in {prog : Program} {w : World} {nt : Addr} {vv : List Value} {tvs : List Bool} {rws : List RowI} {ls : List (Str × Tok)} {tabs rest led : List (Addr × Obj)} {d : RulX} {i k : Nat} {q : Str × Tok} (hok : RulsOk prog w nt vv tabs 5 d) (htab : TabsOk prog w ls rws 5 tabs) (hv : VerdIn prog w rest vv tvs) (hr : RowsIn rest ls rws) (h5 : vv.length = 5) (h5r : rws.length = 5)
    (s1 : ∀ p ∈ d.own, p ∈ led) (s2 : ∀ p ∈ tabs, p ∈ led) (s3 : ∀ p ∈ rest, p ∈ led) (hk : k < 5) (hq : ls[i]? = some q) : RuleIn prog w nt led q.1 ((ruOf vv tvs rws d.xs k).at i) := by
  obtain ⟨x, hx⟩ : ∃ x, d.xs[k]? = some x := ⟨_, List.getElem?_eq_getElem (by have := hok.2.2.2.2.1; omega)⟩
  obtain ⟨v, hvk⟩ : ∃ v, vv[k]? = some v := ⟨_, List.getElem?_eq_getElem (by omega)⟩
  obtain ⟨p, hp⟩ : ∃ p, tabs[k]? = some p := ⟨_, List.getElem?_eq_getElem (by have := htab.1; omega)⟩
  obtain ⟨r, hrk⟩ : ∃ r, rws[k]? = some r := ⟨_, List.getElem?_eq_getElem (by omega)⟩
  obtain ⟨g1, g2, g3⟩ := hr r (List.mem_of_getElem? hrk)
  obtain ⟨g4, g5, g6⟩ := g1
  have hi := (List.getElem?_eq_some_iff.mp hq).1
  have e1 : d.xs.getD k (0, 0) = x := by simp [List.getD_eq_getElem?_getD, hx]
  have e2 : vv.getD k .none = v := by simp [List.getD_eq_getElem?_getD, hvk]
  have e3 : (rws.map RowI.ns).getD k [] = r.ns := by simp [List.getD_eq_getElem?_getD, hrk]
  have hri : r.ns[i]? = some (r.ns.getD i 0) := by
    rw [List.getD_eq_getElem?_getD, List.getElem?_eq_getElem (by omega)]
    rfl
  obtain ⟨dd, U, RL, f, t1, t2, t3, t4, t5, t6, fs, a1, a2, a3, a4⟩ := hok.2.2.2.2.2 k x v p hx hvk hp
  obtain ⟨b1, b2⟩ := htab.2 k p r hp hrk
  obtain ⟨c1, c2⟩ := hv k v hvk
  unfold ruOf RU.at
  rw [e1, e2, e3]
  refine ⟨dd, U, RL, f, t1, t2, t3, t4, t5, t6, fs, p.1, p.2, tabOf ls r.ns, s1 _ a1, s1 _ a2, a3, fun z hz => s1 _ (a4 z hz), s2 _ (List.mem_of_getElem? hp), fun h ho => zip_tab g5 b2 b1 h ho, ?_, g2 _ (List.mem_of_getElem? hri), okV_handed c2, c1.mono s3⟩
  refine tab_look (i := i) (fun j q' r' h1 h2 h3 => ?_) hq hri
  have h4 := g3 j i q' q h1 hq h3
  have h5 : r.ns.getD j 0 = r' := by simp [List.getD_eq_getElem?_getD, h2]
  rw [← h5, h4]
noncomputable def ListAns (led : List (Addr × Obj)) (a : Addr) (nis : List NI) : Prop :=
  ∃ (Ts : List Addr) (c : Nat), (a, ({ cls := .type "list", data := .seq (Ts.map Value.ref).toArray c } : Obj)) ∈ led ∧ Ts.length = nis.length ∧ ∀ (k : Nat) (n : NI) (T : Addr), nis[k]? = some n → Ts[k]? = some T → AnsIs led n T
theorem AnsIs.mono {led led' : List (Addr × Obj)} {n : NI} {T : Addr} (h : AnsIs led n T) (hs : ∀ p ∈ led, p ∈ led') : AnsIs led' n T := by
  obtain ⟨Lk, Ts, c, h1, h2, h3, h4⟩ := h
  exact ⟨Lk, Ts, c, hs _ h1, hs _ h2, h3, fun k q T a b => hs _ (h4 k q T a b)⟩
theorem ListAns.mono {led led' : List (Addr × Obj)} {a : Addr} {nis : List NI} (h : ListAns led a nis) (hs : ∀ p ∈ led, p ∈ led') : ListAns led' a nis := by
  obtain ⟨Ts, c, h1, h2, h3⟩ := h
  exact ⟨Ts, c, hs _ h1, h2, fun k n T a b => (h3 k n T a b).mono hs⟩
theorem ans_out {nt : Addr} {R nw : List (Addr × Obj)} {nis : List NI} {v : Value} (h : AnsOut nt R nis v nw) (hR : ∀ p ∈ R, p.1 ≠ nt) : ∃ (a : Addr) (R' : List (Addr × Obj)) (ns : Array Value) (cn : Nat), v = .ref a ∧ ns.size ≤ 20 ∧ (∀ p ∈ (nt, ({ cls := .type "list", data := .seq ns cn } : Obj)) :: R', p ∈ nw) ∧ ListAns R' a nis ∧ (∀ p ∈ R, p ∈ R') ∧ ∀ p ∈ R', p.1 ≠ nt := by
  obtain ⟨AL, Ts, own, c, cn, ns, rfl, hns, rfl, hne, h1, h2, h3, h4⟩ := h
  refine ⟨AL, (AL, ({ cls := .type "list", data := .seq (Ts.map Value.ref).toArray c } : Obj)) :: (own ++ R), ns, cn, rfl, hns, fun p hp => ?_, ⟨Ts, c, .head _, h3, fun k n T a b => (h4 k n T a b).mono fun p hp => .tail _ (List.mem_append_left _ hp)⟩, fun p hp => .tail _ (List.mem_append_right _ hp), fun p hp => ?_⟩
  · rcases List.mem_cons.mp hp with rfl | hp
    · exact .tail _ (.head _)
    rcases List.mem_cons.mp hp with rfl | hp
    · exact .head _
    · exact .tail _ (.tail _ hp)
  · rcases List.mem_cons.mp hp with rfl | hp
    · exact hne
    rcases List.mem_append.mp hp with hp | hp
    · exact (h2 p hp).1
    · exact hR p hp
theorem ru_all {prog : Program} {w : World} {nt : Addr} {led : List (Addr × Obj)} {ls : List (Str × Tok)} {f : Nat → RU} {ord : List Nat} {i : Nat} {q : Str × Tok} {r : RI} (h : ∀ (k i : Nat) (q : Str × Tok), k < 5 → ls[i]? = some q → RuleIn prog w nt led q.1 ((f k).at i)) (ho : ord.all (· < 5) = true) (hq : ls[i]? = some q) (hr : r ∈ (ord.map f).map (RU.at i)) : RuleIn prog w nt led q.1 r := by
  rw [List.map_map] at hr
  obtain ⟨k, hk, rfl⟩ := List.mem_map.mp hr
  exact h k i q (by simpa using List.all_eq_true.mp ho k hk) hq
theorem ru_ok {prog : Program} {w : World} {rest : List (Addr × Obj)} {vv : List Value} {tvs : List Bool} {rws : List RowI} {xs : List (Addr × Tok)} {ord : List Nat} {i : Nat} {r : RI} (h : VerdIn prog w rest vv tvs) (h5 : vv.length = 5) (ho : ord.all (· < 5) = true) (hr : r ∈ (ord.map (ruOf vv tvs rws xs)).map (RU.at i)) : okV r.v = true := by
  rw [List.map_map] at hr
  obtain ⟨k, hk, rfl⟩ := List.mem_map.mp hr
  have hk5 : k < 5 := by simpa using List.all_eq_true.mp ho k hk
  obtain ⟨v, hvk⟩ : ∃ v, vv[k]? = some v := ⟨_, List.getElem?_eq_getElem (by omega)⟩
  have e2 : vv.getD k .none = v := by simp [List.getD_eq_getElem?_getD, hvk]
  show okV (vv.getD k .none) = true
  rw [e2]
  exact (h k v hvk).2
section
variable {g h : Heap} {L : Addr} {D a b c d e x : Addr × Obj} {R0 R tb own2 own rest : List (Addr × Obj)} {N : News g L h (D :: a :: b :: c :: d :: e :: R0)}
theorem mrg_inT (hR : R = x :: (tb ++ (own2 ++ mrgT N (own ++ rest)))) {p : Addr × Obj} (hp : p ∈ own) : p ∈ R := by
  rw [hR]; exact .tail _ (List.mem_append_right _ (List.mem_append_right _ (.tail _ (.tail _ (.tail _ (.tail _ (.tail _ (List.mem_append_left _ hp))))))))
theorem mrg_inS (hR : R = x :: (tb ++ (own2 ++ mrgT N (own ++ rest)))) {p : Addr × Obj} (hp : p ∈ rest) : p ∈ R := by
  rw [hR]; exact .tail _ (List.mem_append_right _ (List.mem_append_right _ (.tail _ (.tail _ (.tail _ (.tail _ (.tail _ (List.mem_append_right _ hp))))))))
end
inductive MergedOut (rest : List (Addr × Obj)) (vv : List Value) (tvs : List Bool) (rws : List RowI) (ls : List (Str × Tok)) (v : Value) (nw : List (Addr × Obj)) : Prop
  | mk (T AA a1 a2 : Addr) (tb : List (Addr × Obj)) (xs : List (Addr × Tok)) (cA : Nat) (zz1 : v = .ref T) (zz2 : TabB tb) (zz3 : (∀ p ∈ tb, p ∈ nw)) (zz4 : (∀ p ∈ rest, p ∈ nw)) (zz5 : (T, ({ cls := .type "tuple", data := .seq #[.ref AA, .bool true] } : Obj)) ∈ nw) (zz6 : (AA, ({ cls := .type "list", data := .seq #[.ref a1, .ref a2] cA } : Obj)) ∈ nw) (zz7 : ListAns nw a1 (nisFrom ([0, 2, 4, 1, 3].map (ruOf vv tvs rws xs)) 0 ls)) (zz8 : ListAns nw a2 (nisFrom ([1, 3, 0, 2, 4].map (ruOf vv tvs rws xs)) 0 ls)) : MergedOut rest vv tvs rws ls v nw
namespace Mg
noncomputable def S0 (prog : Program) (w : World) (tb rest : List (Addr × Obj)) (va ra na : Addr) (c2 c3 c4 : Nat) (vv : List Value) (rws : List RowI) (ls : List (Str × Tok)) (tvs : List Bool) (p : Program) (loose : List Str) (mean : ExcName → Option Value) (mg : Str → Option Value) (mb : Str → Option Value) (dp : Nat) (un : Nat) (gd : Option (List Code)) (cnn : Str) (cnm : List (Str × NameKind)) (cig : Bool) (cic : Bool) (cmo : List (Str × Const)) (a : Addr) (ccd : Value) (cl : List (Str × Addr)) (outer : List Env) (A₀ : Around) (base : Heap) (h₀ : Heap) (L : Addr) (m : Str → Option Value) (s : Shared) (Q : Value → Shared → Prop) (E : Value → Shared → Prop) : Prop :=
  TabB tb → (∀ p ∈ rest, p.1 ≠ 156) → (va, ({ cls := .type "list", data := .seq vv.toArray c2 } : Obj)) ∈ rest → (ra, ({ cls := .type "list", data := .seq (rws.map fun r => Value.ref r.a).toArray c3 } : Obj)) ∈ rest → (na, ({ cls := .type "list", data := .seq (strValues ls).toArray c4 } : Obj)) ∈ rest → vv.length = 5 → rws.length = 5 → RowsIn rest ls rws → ls.length = 3 → VerdIn prog w rest vv tvs → 
  ComesNv prog w 40 600 190 (tb ++ rest) [.ref va, .ref ra, .ref na] (MergedOut rest vv tvs rws ls) p loose mean mg mb dp un gd cnn ⟨.function, cnm, cig, cic, cmo⟩ a ccd cl outer A₀ base h₀ L m s Q E
noncomputable def P0 (x : Program × World × (List (Addr × Obj)) × (List (Addr × Obj)) × Addr × Addr × Addr × Nat × Nat × Nat × List Value × List RowI × (List (Str × Tok)) × List Bool × Program × List Str × (ExcName → Option Value) × (Str → Option Value) × (Str → Option Value) × Nat × Nat × Option (List Code) × Str × (List (Str × NameKind)) × Bool × Bool × (List (Str × Const)) × Addr × Value × (List (Str × Addr)) × List Env × Around × Heap × Heap × Addr × (Str → Option Value) × Shared × (Value → Shared → Prop) × (Value → Shared → Prop)) : Prop := S0 x.1 x.2.1 x.2.2.1 x.2.2.2.1 x.2.2.2.2.1 x.2.2.2.2.2.1 x.2.2.2.2.2.2.1 x.2.2.2.2.2.2.2.1 x.2.2.2.2.2.2.2.2.1 x.2.2.2.2.2.2.2.2.2.1 x.2.2.2.2.2.2.2.2.2.2.1 x.2.2.2.2.2.2.2.2.2.2.2.1 x.2.2.2.2.2.2.2.2.2.2.2.2.1 x.2.2.2.2.2.2.2.2.2.2.2.2.2.1 x.2.2.2.2.2.2.2.2.2.2.2.2.2.2.1 x.2.2.2.2.2.2.2.2.2.2.2.2.2.2.2.1 x.2.2.2.2.2.2.2.2.2.2.2.2.2.2.2.2.1 x.2.2.2.2.2.2.2.2.2.2.2.2.2.2.2.2.2.1 x.2.2.2.2.2.2.2.2.2.2.2.2.2.2.2.2.2.2.1 x.2.2.2.2.2.2.2.2.2.2.2.2.2.2.2.2.2.2.2.1 x.2.2.2.2.2.2.2.2.2.2.2.2.2.2.2.2.2.2.2.2.1 x.2.2.2.2.2.2.2.2.2.2.2.2.2.2.2.2.2.2.2.2.2.1 x.2.2.2.2.2.2.2.2.2.2.2.2.2.2.2.2.2.2.2.2.2.2.1 x.2.2.2.2.2.2.2.2.2.2.2.2.2.2.2.2.2.2.2.2.2.2.2.1 x.2.2.2.2.2.2.2.2.2.2.2.2.2.2.2.2.2.2.2.2.2.2.2.2.1 x.2.2.2.2.2.2.2.2.2.2.2.2.2.2.2.2.2.2.2.2.2.2.2.2.2.1 x.2.2.2.2.2.2.2.2.2.2.2.2.2.2.2.2.2.2.2.2.2.2.2.2.2.2.1 x.2.2.2.2.2.2.2.2.2.2.2.2.2.2.2.2.2.2.2.2.2.2.2.2.2.2.2.1 x.2.2.2.2.2.2.2.2.2.2.2.2.2.2.2.2.2.2.2.2.2.2.2.2.2.2.2.2.1 x.2.2.2.2.2.2.2.2.2.2.2.2.2.2.2.2.2.2.2.2.2.2.2.2.2.2.2.2.2.1 x.2.2.2.2.2.2.2.2.2.2.2.2.2.2.2.2.2.2.2.2.2.2.2.2.2.2.2.2.2.2.1 x.2.2.2.2.2.2.2.2.2.2.2.2.2.2.2.2.2.2.2.2.2.2.2.2.2.2.2.2.2.2.2.1 x.2.2.2.2.2.2.2.2.2.2.2.2.2.2.2.2.2.2.2.2.2.2.2.2.2.2.2.2.2.2.2.2.1 x.2.2.2.2.2.2.2.2.2.2.2.2.2.2.2.2.2.2.2.2.2.2.2.2.2.2.2.2.2.2.2.2.2.1 x.2.2.2.2.2.2.2.2.2.2.2.2.2.2.2.2.2.2.2.2.2.2.2.2.2.2.2.2.2.2.2.2.2.2.1 x.2.2.2.2.2.2.2.2.2.2.2.2.2.2.2.2.2.2.2.2.2.2.2.2.2.2.2.2.2.2.2.2.2.2.2.1 x.2.2.2.2.2.2.2.2.2.2.2.2.2.2.2.2.2.2.2.2.2.2.2.2.2.2.2.2.2.2.2.2.2.2.2.2.1 x.2.2.2.2.2.2.2.2.2.2.2.2.2.2.2.2.2.2.2.2.2.2.2.2.2.2.2.2.2.2.2.2.2.2.2.2.2.1 x.2.2.2.2.2.2.2.2.2.2.2.2.2.2.2.2.2.2.2.2.2.2.2.2.2.2.2.2.2.2.2.2.2.2.2.2.2.2
noncomputable def k0 : Program × World × (List (Addr × Obj)) × (List (Addr × Obj)) × Addr × Addr × Addr × Nat × Nat × Nat × List Value × List RowI × (List (Str × Tok)) × List Bool × Program × List Str × (ExcName → Option Value) × (Str → Option Value) × (Str → Option Value) × Nat × Nat × Option (List Code) × Str × (List (Str × NameKind)) × Bool × Bool × (List (Str × Const)) × Addr × Value × (List (Str × Addr)) × List Env × Around × Heap × Heap × Addr × (Str → Option Value) × Shared × (Value → Shared → Prop) × (Value → Shared → Prop) := henk (qv, aWorld 1, [], [], 0, 0, 0, 0, 0, 0, [], [], [], [], qv, [], fun _ => none, fun _ => none, fun _ => none, 0, 0, none, default, [], false, false, [], 0, .none, [], [], hen_a, default, default, 0, fun _ => none, hen_s, fun _ _ => True, fun _ _ => True) P0
@[irreducible] noncomputable def prog : Program := k0.1
@[irreducible] noncomputable def w : World := k0.2.1
@[irreducible] noncomputable def tb : List (Addr × Obj) := k0.2.2.1
@[irreducible] noncomputable def rest : List (Addr × Obj) := k0.2.2.2.1
@[irreducible] noncomputable def va : Addr := k0.2.2.2.2.1
@[irreducible] noncomputable def ra : Addr := k0.2.2.2.2.2.1
@[irreducible] noncomputable def na : Addr := k0.2.2.2.2.2.2.1
@[irreducible] noncomputable def c2 : Nat := k0.2.2.2.2.2.2.2.1
@[irreducible] noncomputable def c3 : Nat := k0.2.2.2.2.2.2.2.2.1
@[irreducible] noncomputable def c4 : Nat := k0.2.2.2.2.2.2.2.2.2.1
@[irreducible] noncomputable def vv : List Value := k0.2.2.2.2.2.2.2.2.2.2.1
@[irreducible] noncomputable def rws : List RowI := k0.2.2.2.2.2.2.2.2.2.2.2.1
@[irreducible] noncomputable def ls : List (Str × Tok) := k0.2.2.2.2.2.2.2.2.2.2.2.2.1
@[irreducible] noncomputable def tvs : List Bool := k0.2.2.2.2.2.2.2.2.2.2.2.2.2.1
@[irreducible] noncomputable def p : Program := k0.2.2.2.2.2.2.2.2.2.2.2.2.2.2.1
@[irreducible] noncomputable def loose : List Str := k0.2.2.2.2.2.2.2.2.2.2.2.2.2.2.2.1
@[irreducible] noncomputable def mean : ExcName → Option Value := k0.2.2.2.2.2.2.2.2.2.2.2.2.2.2.2.2.1
@[irreducible] noncomputable def mg : Str → Option Value := k0.2.2.2.2.2.2.2.2.2.2.2.2.2.2.2.2.2.1
@[irreducible] noncomputable def mb : Str → Option Value := k0.2.2.2.2.2.2.2.2.2.2.2.2.2.2.2.2.2.2.1
@[irreducible] noncomputable def dp : Nat := k0.2.2.2.2.2.2.2.2.2.2.2.2.2.2.2.2.2.2.2.1
@[irreducible] noncomputable def un : Nat := k0.2.2.2.2.2.2.2.2.2.2.2.2.2.2.2.2.2.2.2.2.1
@[irreducible] noncomputable def gd : Option (List Code) := k0.2.2.2.2.2.2.2.2.2.2.2.2.2.2.2.2.2.2.2.2.2.1
@[irreducible] noncomputable def cnn : Str := k0.2.2.2.2.2.2.2.2.2.2.2.2.2.2.2.2.2.2.2.2.2.2.1
@[irreducible] noncomputable def cnm : List (Str × NameKind) := k0.2.2.2.2.2.2.2.2.2.2.2.2.2.2.2.2.2.2.2.2.2.2.2.1
@[irreducible] noncomputable def cig : Bool := k0.2.2.2.2.2.2.2.2.2.2.2.2.2.2.2.2.2.2.2.2.2.2.2.2.1
@[irreducible] noncomputable def cic : Bool := k0.2.2.2.2.2.2.2.2.2.2.2.2.2.2.2.2.2.2.2.2.2.2.2.2.2.1
@[irreducible] noncomputable def cmo : List (Str × Const) := k0.2.2.2.2.2.2.2.2.2.2.2.2.2.2.2.2.2.2.2.2.2.2.2.2.2.2.1
@[irreducible] noncomputable def a : Addr := k0.2.2.2.2.2.2.2.2.2.2.2.2.2.2.2.2.2.2.2.2.2.2.2.2.2.2.2.1
@[irreducible] noncomputable def ccd : Value := k0.2.2.2.2.2.2.2.2.2.2.2.2.2.2.2.2.2.2.2.2.2.2.2.2.2.2.2.2.1
@[irreducible] noncomputable def cl : List (Str × Addr) := k0.2.2.2.2.2.2.2.2.2.2.2.2.2.2.2.2.2.2.2.2.2.2.2.2.2.2.2.2.2.1
@[irreducible] noncomputable def outer : List Env := k0.2.2.2.2.2.2.2.2.2.2.2.2.2.2.2.2.2.2.2.2.2.2.2.2.2.2.2.2.2.2.1
@[irreducible] noncomputable def A₀ : Around := k0.2.2.2.2.2.2.2.2.2.2.2.2.2.2.2.2.2.2.2.2.2.2.2.2.2.2.2.2.2.2.2.1
@[irreducible] noncomputable def base : Heap := k0.2.2.2.2.2.2.2.2.2.2.2.2.2.2.2.2.2.2.2.2.2.2.2.2.2.2.2.2.2.2.2.2.1
@[irreducible] noncomputable def h₀ : Heap := k0.2.2.2.2.2.2.2.2.2.2.2.2.2.2.2.2.2.2.2.2.2.2.2.2.2.2.2.2.2.2.2.2.2.1
@[irreducible] noncomputable def L : Addr := k0.2.2.2.2.2.2.2.2.2.2.2.2.2.2.2.2.2.2.2.2.2.2.2.2.2.2.2.2.2.2.2.2.2.2.1
@[irreducible] noncomputable def m : Str → Option Value := k0.2.2.2.2.2.2.2.2.2.2.2.2.2.2.2.2.2.2.2.2.2.2.2.2.2.2.2.2.2.2.2.2.2.2.2.1
@[irreducible] noncomputable def s : Shared := k0.2.2.2.2.2.2.2.2.2.2.2.2.2.2.2.2.2.2.2.2.2.2.2.2.2.2.2.2.2.2.2.2.2.2.2.2.1
@[irreducible] noncomputable def Q : Value → Shared → Prop := k0.2.2.2.2.2.2.2.2.2.2.2.2.2.2.2.2.2.2.2.2.2.2.2.2.2.2.2.2.2.2.2.2.2.2.2.2.2.1
@[irreducible] noncomputable def E : Value → Shared → Prop := k0.2.2.2.2.2.2.2.2.2.2.2.2.2.2.2.2.2.2.2.2.2.2.2.2.2.2.2.2.2.2.2.2.2.2.2.2.2.2
theorem main : S0 prog w tb rest va ra na c2 c3 c4 vv rws ls tvs p loose mean mg mb dp un gd cnn cnm cig cic cmo a ccd cl outer A₀ base h₀ L m s Q E := by
  unfold S0 ComesNv
  intro ht hr hv hra hn h5 h5r hrw' hl hver B F X N T C1 C2 hk hd hu hret
  have hrw : ∀ r ∈ rws, r.In 3 rest := fun r hr => hl ▸ (hrw' r hr).1
  refine wpAny_call ?_
  k_enter
  k_steps
  (with_reducible rename Fr _ _ _ _ => F1; with_reducible rename News _ _ _ _ => N1)
  refine exR (nwAll N1) fun BB hBB => ?_
  dsimp only [nwAll] at hBB
  have hsub : ∀ q ∈ tb ++ rest, q ∈ BB := fun q hq => by rw [hBB]; exact .tail _ (.tail _ (.tail _ (.tail _ (.tail _ hq))))
  have hs2 : ∀ q ∈ rest, q ∈ BB := fun q hq => hsub q (List.mem_append_right _ hq)
  have mNs := nw_mem3 N1
  rw [← hBB] at mNs
  refine SrcV.list (fun _ own => own ++ BB) (fun _ own => own.map fun p => Value.ref p.1) (fun i own => TabsOk prog w ls rws i own) [] (by rfl) F1 (by rw [hBB]; exact N1) ⟨rfl, fun k p r h => by simp at h⟩ rfl (fun i d _ => List.mem_append_right _ (hs2 _ hra)) (by rw [List.size_toArray, List.length_map]; size_fits) ?_ ?_
  · intro i own v I oI C oC D m₂ h tk E' G hi hok hP hio hC hx F2 N2 off ne hG
    obtain ⟨r, hr', rfl⟩ := row_item hP
    have hrI := hrw r (List.mem_of_getElem? hr')
    have w1 := List.mem_append_right own mNs
    have w2 := List.mem_append_right own (hs2 _ hn)
    have w3 := List.mem_append_right own (hs2 _ hrI.1)
    clear N1
    k_steps
    show wpAny _ _ _ _ _ _
    refine' DictComp_Z (h₀ := frBase F2) (L := frL F2) (m := frMap F2) ?a ?b ?c ?d ?e ?f ?g ?x ?y ?z ?_; (case a => rfl); (case b => with_unfolding_all rfl); (case c => decide); (case d => rfl); (case e => decide); (case f => rfl); (case g => rfl); (case x => decide); (case y => decide); (case z => decide)
    k_steps
    show wpAny _ _ _ _ _ _
    refine' ZipSrc.intro ?k1 ?k2 ?k3 ?k4 ?k5 ?k6 ?k7 ?k8 ?_; (case k1 => exact F2); (case k2 => exact N2); (case k3 => exact .tail _ (.tail _ (.tail _ w2))); (case k4 => exact .tail _ (.tail _ (.tail _ w3))); (case k5 => rfl); (case k6 => rfl); (case k7 => rw [hrI.2.1.length, hrI.2.2, hl]); (case k8 => omega)
    intro h9 D3 o3 h3 tk3 F3 N3 lt3 lo3 hk3
    exact hG _ (own ++ [(D3, o3)]) _ _ (tabs_next hok hr' hk3 lo3) (by simp) F3 (news_snoc N3) (off3_snoc off (Ne.symm (Nat.ne_of_lt (lt3 _ (.head _)))) (Ne.symm (Nat.ne_of_lt (lt3 _ (.tail _ (.head _))))) (Ne.symm (Nat.ne_of_lt (lt3 _ (.tail _ (.tail _ (.head _)))))))
  · intro own hok D h tk F2 N2 o1
    rw [List.size_toArray, List.length_map, h5r] at hok
    have o2 := off1_mem o1
    refine exR (own ++ (tb ++ rest)) fun R0 hR0 => ?_
    rw [hBB] at N2 o2
    have hdd := tabs_data hok h5r
    have N3 := mrg_mid N2 hR0
    have hlN : ∀ p ∈ tb ++ rest, @LT.lt Nat instLTNat p.1 (frL F1) := by assumption
    have lnt := (by assumption : @LT.lt Nat instLTNat _ (nwHead N1) ∧ @LT.lt Nat instLTNat _ (nwHead N1) ∧ @LT.lt Nat instLTNat _ (nwHead N1) ∧ @LT.lt Nat instLTNat _ (nwHead N1) ∧ AllLt (nwHead N1) (tb ++ rest))
    have hRc := mrg_apart (c := nwHead2 N1) N2 hdd hR0 (fun p hp => by have h1 := hlN p hp; dsimp only [frL, nwHead2] at h1 ⊢; omega) (.tail _ (.head _)) (by assumption)
    have hRn := mrg_apartL N2 hdd hR0 (fun p hp => Nat.ne_of_lt (allLt_mem lnt.2.2.2.2 p hp)) (.head _)
    have dn : @Ne Nat _ _ := o2 _ (List.mem_append_right _ (.head _))
    have dc : @Ne Nat _ _ := o2 _ (List.mem_append_right _ (.tail _ (.head _)))
    dsimp only [nwHead2, nwHead] at hRc hRn dn dc
    k_steps
    (with_reducible rename Fr _ _ _ _ => F4; with_reducible rename News _ _ _ _ => N4; with_reducible rename IsRange _ _ _ _ _ _ _ _ => rgX)
    obtain ⟨o156, m156⟩ := ht.mem156
    refine exR (mrgB2 N4 (own ++ rest)) fun B2 hB2 => ?_
    have h156 : @LT.lt Nat instLTNat 156 (frL F1) := hlN _ (List.mem_append_left _ m156)
    have hB6 : ∀ p ∈ B2, p.1 ≠ 156 := mrg_b6 hB2 N4 hR0 hdd m156 ht hr (Nat.ne_of_gt (allLt_mem lnt.2.2.2.2 _ (List.mem_append_left _ m156))) (Ne.symm (o2 _ (List.mem_append_right _ (.tail _ (.tail _ (.tail _ (.tail _ (.tail _ (List.mem_append_left _ m156)))))))))
      (by dsimp only [frL] at h156; omega) (by dsimp only [frL] at h156; omega) (by dsimp only [frL] at h156; omega) (by dsimp only [frL] at h156; omega)
    have hsubB : ∀ q ∈ rest, q ∈ B2 := fun q hq => by rw [hB2]; exact .tail _ (.tail _ (.tail _ (.tail _ (.tail _ (.tail _ (List.mem_append_right _ hq))))))
    have n1 := mrg_in1 N4 hB2
    have n2 := mrg_in2 N4 hB2
    have n3 := mrg_in3 N4 hB2
    have n4 := mrg_in4 N4 hB2
    have n6 := mrg_in6 N4 hB2
    have hlo : own.length = 5 := hok.1
    have mnt := mrg_in0 N4 hB2
    have hBn : ∀ p ∈ tb, p.1 ≠ nwHead N1 := fun p hp => Nat.ne_of_lt (allLt_mem lnt.2.2.2.2 p (List.mem_append_left _ hp))
    refine SrcV.range (fun _ d => d.tb ++ (d.own ++ B2)) (fun _ d => d.xs.map fun q => Value.ref q.1) (fun i d => RulsOk prog w (nwHead N1) vv own i d) ⟨tb, [], []⟩ (by rfl) F4 (by exact mrg_start N4 hB2 hR0) ⟨ht, (fun p hp => nomatch hp), (fun p hp => nomatch hp), hBn, rfl, fun k x v rt h => by simp at h⟩ rfl rgX (small_one (by omega) (by omega) (by omega) (by omega)) (n := 5) (by decide) (by size_fits) ?_ ?_
    · intro i d v I oI C oC Da m₂ h tk E' G hi hok2 hP hio hC hx F2 N2 off ne hG
      obtain ⟨t0, rfl⟩ := hP
      dsimp only [nwHead] at N2 off hok2 hG
      have hii : PlaceOf (0 + (i : Int)) 5 i := .inl ⟨by omega, by omega, by omega⟩
      refine exI (l := vv) (i := i) (by omega) fun v0 hv0 => ?_
      refine exI (l := own) (i := i) (by omega) fun p0 hp0 => ?_
      have y1 : ItemIs vv (0 + (i : Int)) v0 := ⟨by omega, i, by rw [h5]; exact hii, hv0⟩
      have y2 : ItemIs (own.map fun p => Value.ref p.1) (0 + (i : Int)) (.ref p0.1) := ⟨by rw [List.length_map]; omega, i, by rw [List.length_map, hlo]; exact hii, by rw [List.getElem?_map, hp0]; rfl⟩
      have up : ∀ q ∈ B2, q ∈ d.tb ++ (d.own ++ B2) := fun q hq => List.mem_append_right _ (List.mem_append_right _ hq)
      have u1 := up _ n1
      have u2 := up _ n2
      have u3 := up _ n3
      have u4 := up _ n4
      have u6 := up _ n6
      have uv := up _ (hsubB _ hv)
      clear lnt hBn hlN h156 hB2 N1 F1 N4 F4
      k_steps
      show wpAny _ _ _ _ _ _
      have hr6 : ∀ p ∈ (I, oI) :: (C, oC) :: (Da, LCg.lst (d.xs.map fun q => Value.ref q.1)) :: (d.own ++ B2), p.1 ≠ 156 := rul_156 hok2 off hB6
      refine' rule_call prog w d.tb ((I, oI) :: (C, oC) :: (Da, LCg.lst (d.xs.map fun q => Value.ref q.1)) :: (d.own ++ B2)) _ _ _ _ _ hok2.1 hr6 _ _ _ _ _ _ _ _ _ _ _ _ _ _ _ _ _ _ _ _ _ _ _ ?xB ?xF ?xX ?xN ?xT ?xC1 ?xC2 ?xk ?xdd ?xu ?_
      case xF => exact F2
      case xB => k_asm
      case xN => exact rul_in N2
      case xX => k_asm
      case xT => k_asm
      case xC1 => k_asm
      case xC2 => k_asm
      case xk => exact rfl
      case xdd => ktr_room
      case xu => ktr_units
      intro v9 nw9 h9 tk9 hP9 F9 N9
      refine hideG ?_
      intro b9 hb9
      rcases hP9 with ⟨x, dd, U, RL, f, t1, t2, t3, t4, t5, t6, fs, tb', rfl, ht', ask, rfl, e1, e2, e3, e4, e5⟩
      rcases ht'.mem156 with ⟨ob, hob⟩
      rcases ht'.fields156 _ hob with ⟨vs6, hvs6⟩
      refine hb9 ?_
      clear hb9 b9
      have x6 : @Ne Nat x 156 := apart_obj N9 (.head _) (.tail _ (.tail _ (List.mem_append_right _ (List.mem_append_left _ hob)))) (fun e => by rw [← e] at hvs6; cases hvs6)
      have d6 : @Ne Nat dd 156 := apart_obj N9 (.tail _ (.head _)) (.tail _ (.tail _ (List.mem_append_right _ (List.mem_append_left _ hob)))) (fun e => by rw [← e] at hvs6; cases hvs6)
      exact hG _ ⟨tb', (x, instObj 52 dd) :: (dd, ruleD w.params U RL f v0 t1 t2 t3 t4 t5 t6) :: (fs ++ d.own), d.xs ++ [(x, t0)]⟩ _ _ (rul_next hok2 hv0 hp0 ht' ask e1 e2 e3 e4 e5 x6 d6 mnt hB6) (by simp) F9 (rul_out N9) (rul_off off hok2 e1 e2 e3 e5 hr6)
    · intro d hok3 Dr h tk F2 N2 o3
      (try dsimp only at N2 o3)
      have o4 := off1_mem o3
      have hup : ∀ q ∈ B2, q ∈ d.tb ++ (d.own ++ B2) := fun q hq => List.mem_append_right _ (List.mem_append_right _ hq)
      refine hideG ?_
      intro b9 hb9
      rcases five_of hok3.2.2.2.2.1 with ⟨q0, q1, q2, q3, q4, hxs⟩
      refine hb9 ?_
      clear hb9 b9
      rw [hxs] at N2
      refine exR ((Dr, LCg.lst ([q0, q1, q2, q3, q4].map fun q => Value.ref q.1)) :: (d.tb ++ (d.own ++ mrgT N4 (own ++ rest)))) fun R hRd => ?_
      have N5 := mrg_R N2 hB2 hRd
      have rRn := mrg_Rn hRd hB2 hok3 (Ne.symm (o4 _ (hup _ mnt))) dn (Nat.ne_of_lt lnt.1) (Nat.ne_of_lt lnt.2.1) (Nat.ne_of_lt lnt.2.2.1) (Nat.ne_of_lt lnt.2.2.2.1) hR0 hRn (fun p hp => Nat.ne_of_lt (allLt_mem lnt.2.2.2.2 p (List.mem_append_right _ hp)))
      have rB : ∀ q ∈ B2, q.1 ≠ nwHead N1 → q ∈ R := mrg_RB hRd hB2
      dsimp only [nwHead] at rB rRn
      have r3 := rB _ n3 (Nat.ne_of_lt lnt.2.1)
      have r4 := rB _ n4 (Nat.ne_of_lt lnt.2.2.1)
      have rna := rB _ (hsubB _ hn) (Nat.ne_of_lt (allLt_mem lnt.2.2.2.2 _ (List.mem_append_right _ hn)))
      have rru : (Dr, LCg.lst ([q0, q1, q2, q3, q4].map fun q => Value.ref q.1)) ∈ R := by rw [hRd]; exact .head _
      have i0 : ItemIs ([q0, q1, q2, q3, q4].map fun q => Value.ref q.1) 0 (.ref q0.1) := item5 rfl (k := 0) rfl rfl
      have i1 : ItemIs ([q0, q1, q2, q3, q4].map fun q => Value.ref q.1) 1 (.ref q1.1) := item5 rfl (k := 1) rfl rfl
      have i2 : ItemIs ([q0, q1, q2, q3, q4].map fun q => Value.ref q.1) 2 (.ref q2.1) := item5 rfl (k := 2) rfl rfl
      have i3 : ItemIs ([q0, q1, q2, q3, q4].map fun q => Value.ref q.1) 3 (.ref q3.1) := item5 rfl (k := 3) rfl rfl
      have i4 : ItemIs ([q0, q1, q2, q3, q4].map fun q => Value.ref q.1) 4 (.ref q4.1) := item5 rfl (k := 4) rfl rfl
      show Go _ _ ({ heap := h, gens := s.gens, drawn := s.drawn, toks := tk, os := s.os } : Shared)
      clear N2 o4 hup
      k_steps
      show wpAny _ _ _ _ _ _
      refine' record_call prog w _ _ _ [q0.1, q2.1, q4.1] ?xm ?xl _ _ _ _ _ _ _ _ _ _ _ _ _ _ _ _ _ _ _ _ _ _ ?xB ?xF ?xX ?xN ?xT ?xC1 ?xC2 ?xk ?xdd ?xu ?_
      case xF => k_asm
      case xB => k_asm
      case xN => k_asm
      case xX => k_asm
      case xT => k_asm
      case xC1 => k_asm
      case xC2 => k_asm
      case xk => exact rfl
      case xdd => ktr_room
      case xu => ktr_units
      case xm => exact .head _
      case xl => exact Nat.le_of_ble_eq_true rfl
      intro v9 nw9 h9 tk9 hP9 F9 N9
      refine hideG ?_
      intro b9 hb9
      rcases rec_out hP9 (fun p hp => .tail _ hp) rRn with ⟨xe, R1, rfl, hs1, hA1, up1, hn1⟩
      refine hb9 ?_
      clear hb9 b9
      replace N9 := KStt.news_of N9 hs1
      have s1 := up1 _ rru
      k_steps
      show wpAny _ _ _ _ _ _
      refine' record_call prog w _ _ _ [q1.1, q3.1] ?xm ?xl _ _ _ _ _ _ _ _ _ _ _ _ _ _ _ _ _ _ _ _ _ _ ?xB ?xF ?xX ?xN ?xT ?xC1 ?xC2 ?xk ?xdd ?xu ?_
      case xF => k_asm
      case xB => k_asm
      case xN => k_asm
      case xX => k_asm
      case xT => k_asm
      case xC1 => k_asm
      case xC2 => k_asm
      case xk => exact rfl
      case xdd => ktr_room
      case xu => ktr_units
      case xm => exact .head _
      case xl => exact Nat.le_of_ble_eq_true rfl
      intro v9 nw9 h9 tk9 hP9 F9 N9
      refine hideG ?_
      intro b9 hb9
      rcases rec_out hP9 (fun p hp => .tail _ hp) hn1 with ⟨xo, R2, rfl, hs2, hA2, up2, hn2⟩
      refine hb9 ?_
      clear hb9 b9
      replace N9 := KStt.news_of N9 hs2
      refine hideG ?_
      intro b9 hb9
      rcases hA1.mono up2 with ⟨d1, U1, L1, t1, t2, t3, t4, cc1, cu1, z1, z2, z3, z4⟩
      rcases hA2 with ⟨d2, U2, L2, t5, t6, t7, t8, cc2, cu2, y1, y2, y3, y4⟩
      refine hb9 ?_
      clear hb9 b9
      k_steps
      show wpAny _ _ _ _ _ _
      refine' merge_call prog w _ xe xo d1 d2 U1 U2 L1 L2 t1 t2 t3 t4 t5 t6 t7 t8 cu1 cu2 cc1 cc2 [q0.1, q2.1, q4.1] [q1.1, q3.1] (Nat.le_of_ble_eq_true rfl) (Nat.le_of_ble_eq_true rfl) (.tail _ z3) (.tail _ y3) (.tail _ z4) (.tail _ y4) (.tail _ z1) (.tail _ y1) (.tail _ z2) (.tail _ y2) _ _ _ _ _ _ _ _ _ _ _ _ _ _ _ _ _ _ _ _ _ _ ?xB ?xF ?xX ?xN ?xT ?xC1 ?xC2 ?xk ?xdd ?xu ?_
      case xF => k_asm
      case xB => k_asm
      case xN => k_asm
      case xX => k_asm
      case xT => k_asm
      case xC1 => k_asm
      case xC2 => k_asm
      case xk => exact rfl
      case xdd => ktr_room
      case xu => ktr_units
      intro v9 nw9 h9 tk9 hP9 F9 N9
      refine hideG ?_
      intro b9 hb9
      rcases rec_out hP9 (fun p hp => hp) hn2 with ⟨xn, R3, rfl, hs3, hA3, up3, hn3⟩
      refine hb9 ?_
      clear hb9 b9
      replace N9 := KStt.news_of N9 hs3
      k_steps
      show wpAny _ _ _ _ _ _
      refine' merge_call prog w _ xo xe d2 d1 U2 U1 L2 L1 t5 t6 t7 t8 t1 t2 t3 t4 cu2 cu1 cc2 cc1 [q1.1, q3.1] [q0.1, q2.1, q4.1] (Nat.le_of_ble_eq_true rfl) (Nat.le_of_ble_eq_true rfl) (.tail _ (up3 _ y3)) (.tail _ (up3 _ z3)) (.tail _ (up3 _ y4)) (.tail _ (up3 _ z4)) (.tail _ (up3 _ y1)) (.tail _ (up3 _ z1)) (.tail _ (up3 _ y2)) (.tail _ (up3 _ z2)) _ _ _ _ _ _ _ _ _ _ _ _ _ _ _ _ _ _ _ _ _ _ ?xB ?xF ?xX ?xN ?xT ?xC1 ?xC2 ?xk ?xdd ?xu ?_
      case xF => k_asm
      case xB => k_asm
      case xN => k_asm
      case xX => k_asm
      case xT => k_asm
      case xC1 => k_asm
      case xC2 => k_asm
      case xk => exact rfl
      case xdd => ktr_room
      case xu => ktr_units
      intro v9 nw9 h9 tk9 hP9 F9 N9
      refine hideG ?_
      intro b9 hb9
      rcases rec_out hP9 (fun p hp => hp) hn3 with ⟨xm, R4, rfl, hs4, hA4, up4, hn4⟩
      refine hb9 ?_
      clear hb9 b9
      replace N9 := KStt.news_of N9 hs4
      have upR : ∀ p ∈ R, p ∈ R4 := fun p hp => up4 p (up3 p (up2 p (up1 p hp)))
      have v3 := upR _ r3
      have v4 := upR _ r4
      have vna := upR _ rna
      have vru := upR _ rru
      have upO : ∀ p ∈ d.own, p ∈ R4 := fun p hp => upR p (by rw [hRd]; exact .tail _ (List.mem_append_right _ (List.mem_append_left _ hp)))
      have upT : ∀ p ∈ own, p ∈ R4 := fun p hp => upR p (mrg_inT hRd hp)
      have upS : ∀ p ∈ rest, p ∈ R4 := fun p hp => upR p (mrg_inS hRd hp)
      have hri := fun (k i : Nat) (q : Str × Tok) (hk : k < 5) (hq : ls[i]? = some q) => ru_in hok3 hok hver hrw' h5 h5r upO upT upS hk hq
      refine hideG ?_
      intro b9 hb9
      rcases hA3.mono up4 with ⟨d3, U3, L3, t9, t10, t11, t12, cc3, cu3, w1, w2, w3, w4⟩
      rcases hA4 with ⟨d4, U4, L4, t13, t14, t15, t16, cc4, cu4, x1, x2, x3, x4⟩
      refine hb9 ?_
      clear hb9 b9
      have hnisL : ∀ us : List RU, ((nisFrom us 0 ls).map fun n => Value.str n.nm n.t) = strValues ls := fun us => nis_map
      k_steps
      show wpAny _ _ _ _ _ _
      refine' answers_call prog w R4 xn d3 U3 L3 na _ t9 t10 t11 t12 cc3 c4 0 ([q0.1, q2.1, q4.1] ++ [q1.1, q3.1]) (nisFrom ([0, 2, 4, 1, 3].map (ruOf vv tvs rws d.xs)) 0 ls) #[] ?xa ?xb ?xc ?xd hn4 ?xe ?xf ?xg ?xh ?xi ?xj _ _ _ _ _ _ _ _ _ _ _ _ _ _ _ _ _ _ _ _ _ _ ?xB ?xF ?xX ?xN ?xT ?xC1 ?xC2 ?xk ?xdd ?xu ?_
      case xF => k_asm
      case xB => k_asm
      case xN => k_asm
      case xX => k_asm
      case xT => k_asm
      case xC1 => k_asm
      case xC2 => k_asm
      case xk => exact rfl
      case xdd => ktr_room
      case xu => ktr_units
      case xa => exact w1
      case xb => exact w2
      case xc => exact w4
      case xd => rw [hnisL]; exact vna
      case xe =>
        intro n hn'
        refine hideG ?_
        intro b9 hb9
        rcases nis_mem hn' with ⟨i, q, hq, rfl⟩
        refine hb9 ?_
        clear hb9 b9
        rw [hxs]
        rfl
      case xf =>
        intro n hn' r hr'
        refine hideG ?_
        intro b9 hb9
        rcases nis_mem hn' with ⟨i, q, hq, rfl⟩
        refine hb9 ?_
        clear hb9 b9
        exact ru_all hri (by decide) hq hr'
      case xg =>
        intro n hn' r hr'
        refine hideG ?_
        intro b9 hb9
        rcases nis_mem hn' with ⟨i, q, hq, rfl⟩
        refine hb9 ?_
        clear hb9 b9
        exact ru_ok hver h5 (by decide) hr'
      case xh => exact Nat.le_of_ble_eq_true rfl
      case xi => rw [nis_length, hl]; exact Nat.le_of_ble_eq_true rfl
      case xj => exact Nat.le_of_ble_eq_true rfl
      intro v9 nw9 h9 tk9 hP9 F9 N9
      refine hideG ?_
      intro b9 hb9
      rcases ans_out hP9 hn4 with ⟨a1, R5, ns5, cn5, rfl, hns5, hs5, hA5, up5, hn5⟩
      refine hb9 ?_
      clear hb9 b9
      replace N9 := KStt.news_of N9 hs5
      have v3' := up5 _ v3
      have v4' := up5 _ v4
      have vna' := up5 _ vna
      k_steps
      show wpAny _ _ _ _ _ _
      refine' answers_call prog w R5 xm d4 U4 L4 na _ t13 t14 t15 t16 cc4 c4 cn5 ([q1.1, q3.1] ++ [q0.1, q2.1, q4.1]) (nisFrom ([1, 3, 0, 2, 4].map (ruOf vv tvs rws d.xs)) 0 ls) ns5 ?xa ?xb ?xc ?xd hn5 ?xe ?xf ?xg ?xh ?xi ?xj _ _ _ _ _ _ _ _ _ _ _ _ _ _ _ _ _ _ _ _ _ _ ?xB ?xF ?xX ?xN ?xT ?xC1 ?xC2 ?xk ?xdd ?xu ?_
      case xF => k_asm
      case xB => k_asm
      case xN => k_asm
      case xX => k_asm
      case xT => k_asm
      case xC1 => k_asm
      case xC2 => k_asm
      case xk => exact rfl
      case xdd => ktr_room
      case xu => ktr_units
      case xa => exact up5 _ x1
      case xb => exact up5 _ x2
      case xc => exact up5 _ x4
      case xd => rw [hnisL]; exact vna'
      case xe =>
        intro n hn'
        refine hideG ?_
        intro b9 hb9
        rcases nis_mem hn' with ⟨i, q, hq, rfl⟩
        refine hb9 ?_
        clear hb9 b9
        rw [hxs]
        rfl
      case xf =>
        intro n hn' r hr'
        refine hideG ?_
        intro b9 hb9
        rcases nis_mem hn' with ⟨i, q, hq, rfl⟩
        refine hb9 ?_
        clear hb9 b9
        exact (ru_all hri (by decide) hq hr').mono up5
      case xg =>
        intro n hn' r hr'
        refine hideG ?_
        intro b9 hb9
        rcases nis_mem hn' with ⟨i, q, hq, rfl⟩
        refine hb9 ?_
        clear hb9 b9
        exact ru_ok hver h5 (by decide) hr'
      case xh => exact Nat.le_of_ble_eq_true rfl
      case xi => rw [nis_length, hl]; exact Nat.le_of_ble_eq_true rfl
      case xj => exact hns5
      intro v9 nw9 h9 tk9 hP9 F9 N9
      refine hideG ?_
      intro b9 hb9
      rcases ans_out hP9 hn5 with ⟨a2, R6, ns6, cn6, rfl, hns6, hs6, hA6, up6, hn6⟩
      refine hb9 ?_
      clear hb9 b9
      replace N9 := KStt.news_of N9 hs6
      have hA5' := hA5.mono up6
      have upZ : ∀ p ∈ R4, p ∈ R6 := fun p hp => up6 p (up5 p hp)
      have z1' := upZ _ (up4 _ (up3 _ z1))
      have z2' := upZ _ (up4 _ (up3 _ z2))
      have z4' := upZ _ (up4 _ (up3 _ z4))
      have y1' := upZ _ (up4 _ (up3 _ y1))
      have y2' := upZ _ (up4 _ (up3 _ y2))
      have y4' := upZ _ (up4 _ (up3 _ y4))
      have vru' := upZ _ vru
      unfold recD at z2' y2'
      k_steps
      show wpAny _ _ _ _ _ _
      refine' same_call prog w _ L1 _ cc1 0 [q0.1, q2.1, q4.1] ?xa ?xb (Nat.le_of_ble_eq_true rfl) _ _ _ _ _ _ _ _ _ _ _ _ _ _ _ _ _ _ _ _ _ _ ?xB ?xF ?xX ?xN ?xT ?xC1 ?xC2 ?xk ?xdd ?xu ?_
      case xF => k_asm
      case xB => k_asm
      case xN => k_asm
      case xX => k_asm
      case xT => k_asm
      case xC1 => k_asm
      case xC2 => k_asm
      case xk => exact rfl
      case xdd => ktr_room
      case xu => ktr_units
      case xa => exact .tail _ (.tail _ (.tail _ z4'))
      case xb => exact .head _
      rintro v9 nw9 h9 tk9 ⟨rfl, rfl⟩ F9 N9
      k_steps
      show wpAny _ _ _ _ _ _
      refine' same_call prog w _ L2 _ cc2 0 [q1.1, q3.1] ?xa ?xb (Nat.le_of_ble_eq_true rfl) _ _ _ _ _ _ _ _ _ _ _ _ _ _ _ _ _ _ _ _ _ _ ?xB ?xF ?xX ?xN ?xT ?xC1 ?xC2 ?xk ?xdd ?xu ?_
      case xF => k_asm
      case xB => k_asm
      case xN => k_asm
      case xX => k_asm
      case xT => k_asm
      case xC1 => k_asm
      case xC2 => k_asm
      case xk => exact rfl
      case xdd => ktr_room
      case xu => ktr_units
      case xa => exact .tail _ (.tail _ (.tail _ (.tail _ y4')))
      case xb => exact .head _
      rintro v9 nw9 h9 tk9 ⟨rfl, rfl⟩ F9 N9
      k_steps
      (with_reducible rename Fr _ _ _ _ => F7; with_reducible rename News _ _ _ _ => N7)
      have hup : ∀ p ∈ R6, p ∈ nwAll N7 := fun p hp => .tail _ (.tail _ (.tail _ (.tail _ (.tail _ hp))))
      exact hret _ _ _ _ ⟨_, _, a1, a2, d.tb, d.xs, _, rfl, hok3.1, fun p hp => hup p (upZ p (upR p (by rw [hRd]; exact .tail _ (List.mem_append_left _ hp)))), fun p hp => hup p (upZ p (upS p hp)), .head _, .tail _ (.tail _ (.tail _ (.head _))), hA5'.mono hup, hA6.mono hup⟩ F7 N7
end Mg
theorem merged_call (prog : Program) (w : World) (tb rest : List (Addr × Obj)) (va ra na : Addr) (c2 c3 c4 : Nat) (ht : TabB tb) (hr : ∀ p ∈ rest, p.1 ≠ 156) (vv : List Value) (rws : List RowI) (ls : List (Str × Tok))
    (hv : (va, ({ cls := .type "list", data := .seq vv.toArray c2 } : Obj)) ∈ rest) (hra : (ra, ({ cls := .type "list", data := .seq (rws.map fun r => Value.ref r.a).toArray c3 } : Obj)) ∈ rest) (hn : (na, ({ cls := .type "list", data := .seq (strValues ls).toArray c4 } : Obj)) ∈ rest)
    (h5 : vv.length = 5) (h5r : rws.length = 5) (hrw' : RowsIn rest ls rws) (hl : ls.length = 3) (tvs : List Bool) (hver : VerdIn prog w rest vv tvs) :
    ComesN prog w 40 600 190 (tb ++ rest) [.ref va, .ref ra, .ref na] (MergedOut rest vv tvs rws ls) := by
  intro p loose mean mg mb dp un gd cnn cs a ccd cl outer A₀ base h₀ L m s Q E B F X N T C1 C2 hk
  obtain ⟨ck, cnm, cig, cic, cmo⟩ := cs
  cases hk
  exact henk_all (P := Mg.P0) (by with_unfolding_all exact Mg.main) (prog, w, tb, rest, va, ra, na, c2, c3, c4, vv, rws, ls, tvs, p, loose, mean, mg, mb, dp, un, gd, cnn, cnm, cig, cic, cmo, a, ccd, cl, outer, A₀, base, h₀, L, m, s, Q, E) ht hr hv hra hn h5 h5r hrw' hl hver B F X N T C1 C2 rfl
end Lw
end
example : True := by k_with_none; w_top off; trivial
section
open PySem PySem.W PyProof.Rows
namespace Lw
example : True := by
  k_with_none
  k_with "omega" => ((fail_if_success (fail_if_success (omega (config := {})))); first | lia | omega (config := {}))
  k_with "callWith ref" => ((k_here; k_dflt (refine' callWith_K ?kAw90 ?kBw90 ?_; (case kAw90 => k_asm); (case kBw90 => k_is); k_whole)))
  k_with "eval Name" => ((k_here; (fail_if_success (with_reducible show wpAny _ _ (eval (Expr.Name _ _) (compEnvC _ _ _ _)) _ _ _)); k_dflt (first | (refine' nameX_L ?Fw91 ?vw91 ?_ ?aw91 ?bw91; (case bw91 => rfl); (case Fw91 => k_asm); (case aw91 => rfl); (case vw91 => rfl); k_whole) | (refine' nameX_C ?Nw92 ?cw92 ?mw92 ?dw92 ?_ ?aw92 ?bw92; (case bw92 => rfl); (case aw92 => rfl); (case Nw92 => k_asm); (case cw92 => rfl); (case mw92 => k_mem); (case dw92 => k_asm); k_whole) | (refine' nameX_K ?Fw93 ?Xw93 ?Tw93 ?ew93 ?_ ?aw93 ?bw93; (case bw93 => rfl); (case Fw93 => k_asm); (case Xw93 => k_asm); (case Tw93 => k_asm); (case aw93 => rfl); (case ew93 => k_is); k_whole) | (refine' nameX_B ?Fw94 ?Xw94 ?Tw94 ?ew94 ?vw94 ?nw94 ?_ ?aw94 ?bw94; (case bw94 => rfl); (case Fw94 => k_asm); (case Xw94 => k_asm); (case Tw94 => k_asm); (case aw94 => rfl); (case ew94 => k_is); (case vw94 => boot_fast); (case nw94 => decide); k_whole))))
  k_with "execs cons" => ((k_here; refine execs_G ?_; intro G9w hG9w))
  k_with "Go" => (((try dsimp only); first | (refine go_next_S (by with_reducible assumption) ?_; intro tSw) | refine go_ret (by with_reducible assumption) ?_ | refine go_cont (by with_reducible assumption) ?_ | refine go_brk (by with_reducible assumption) ?_))
  k_with "k_ne" => ((with_reducible first | assumption | exact Ne.symm (by assumption) | exact Nat.ne_of_lt (by assumption) | exact Ne.symm (Nat.ne_of_lt (by assumption)) | fail "k_ne"))
  k_with "ktr_room" => (first | exact room_a (by with_reducible assumption) rfl | exact room_b (by with_reducible assumption) rfl | exact room_c (by with_reducible assumption) rfl | fail "room")
  k_with "ktr_units" => (first | exact room_a (by with_reducible assumption) rfl | exact room_b (by with_reducible assumption) rfl | exact room_c (by with_reducible assumption) rfl | fail "room")
  k_with "k_room" => (ktr_room)
  k_with "call type:map" => ((k_here; k_dflt (refine call_map_N (by k_asm) (by k_asm) (by k_mem) ?_); intro I'w T'w it'w h'w F'w N'w l1w l2w l3w))
  trivial
theorem lt_head {a d : Addr} {o : Obj} {r : List (Addr × Obj)} (h : ∀ p ∈ (a, o) :: r, p.1 < d) : a < d := h _ (.head _)
theorem lt_tail {a d : Addr} {o : Obj} {r : List (Addr × Obj)} (h : ∀ p ∈ (a, o) :: r, p.1 < d) : ∀ p ∈ r, p.1 < d := fun p hp => h p (.tail _ hp)
theorem short_parts {l : List (Str × Tok)} {x y : Str} (h : l.map (·.1) = Txt.split x y) (hx : x.length ≤ 900) : l.length ≤ 1000 ∧ ∀ q ∈ l, q.1.length ≤ 1000 := by
  refine ⟨by have := len_le_of_split h; omega, fun q hq => ?_⟩
  have h1 : q.1 ∈ Txt.split x y := by rw [← h]; exact List.mem_map_of_mem hq
  have := part_short h1
  omega
example : True := by
  k_with "call type:list" => ((k_here; (with_reducible show wpAny _ _ (call (Value.type "list") [Value.ref _]) _ _ _); (obtain ⟨hs9w, hs8w⟩ := short_parts (by assumption) (by assumption)); (have hs7w := len_of_split (by assumption)); k_dflt (refine' list_escape_N ?k1w62 ?k2w62 ?k3w62 ?k4w62 ?k5w62 ?kKw62 ?kdw62 ?kuw62 ?l1w62 ?l2w62 ?l3w62 ?l4w62 ?haw62 ?hbw62 ?hcw62); (case k1w62 => k_asm); (case k2w62 => k_asm); (case k3w62 => k_asm); (case k4w62 => k_asm); (case k5w62 => k_asm); (case kKw62 => (first | exact rfl | assumption)); (case kdw62 => ktr_room); (case kuw62 => ktr_units); (case l1w62 => assumption); (case l2w62 => assumption); (case l3w62 => exact lt_head (by assumption)); (case l4w62 => exact lt_tail (by assumption)); (case haw62 => exact (short_parts (by assumption) (by assumption)).1); (case hbw62 => exact (short_parts (by assumption) (by assumption)).2); intro S'w h'w tk'w ls'w c'w e'w hz'w hb'w F'w N'w lS'w))
  k_with "call builtin:len" => ((k_here; k_dflt (refine' len_strs ?k1w63 ?k2w63 ?k3w63 ?_); (case k1w63 => k_asm); (case k2w63 => k_mem); (case k3w63 => omega)))
  trivial
noncomputable def wrapP (y : Str) : Str := Str.ofString "(?>.*?" ++ y ++ Str.ofString ")"
noncomputable def WrapI (ls : List (Str × Tok)) (pre : List Int) (ls₁ : List (Str × Tok)) : Prop :=
  ls₁.length = ls.length ∧ (∀ q ∈ ls₁, q.1.length ≤ 2010) ∧ ∀ j, (ls₁[j]?.map (·.1)) = (ls[j]?.map (·.1)).map (fun y => if 1 ≤ j ∧ j < pre.length + 1 then wrapP y else y)
example : True := by
  k_with "subscriptTail Name Name ref int" => ((k_here; (with_reducible show wpAny _ _ (subscriptTail _ _ (Value.ref _) (Value.int _ _)) _ _ _); k_dflt (refine' item_strs ?k1w32 ?k2w32 ?k3w32 ?k4w32 ?k5w32 ?_ ?k6w32; (case k1w32 => k_asm); (case k2w32 => k_mem); (case k3w32 => omega); (case k4w32 => (first | exact Or.inl ⟨by omega, by omega, rfl⟩ | exact Or.inr ⟨by decide, by omega, rfl⟩)); (case k5w32 => assumption); (case k6w32 => with_unfolding_all rfl); intro q'w hq'w hqb'w)))
  k_with "subscriptTail Name UnaryOp ref int" => ((k_here; (with_reducible show wpAny _ _ (subscriptTail _ _ (Value.ref _) (Value.int _ _)) _ _ _); k_dflt (refine' item_strs ?k1w64 ?k2w64 ?k3w64 ?k4w64 ?k5w64 ?_ ?k6w64; (case k1w64 => k_asm); (case k2w64 => k_mem); (case k3w64 => omega); (case k4w64 => (first | exact Or.inl ⟨by omega, by omega, rfl⟩ | exact Or.inr ⟨by decide, by omega, rfl⟩)); (case k5w64 => assumption); (case k6w64 => with_unfolding_all rfl); intro q'w hq'w hqb'w)))
  k_with "setItem ref" => ((k_here; (with_reducible show wpAny _ _ (setItem (Value.ref _) (Value.int _ _) (Value.str _ _)) _ _ _); k_dflt (refine' setItem_strs ?k1w65 ?k2w65 ?k3w65 ?k4w65 ?k5w65 ?_); (case k1w65 => k_asm); (case k2w65 => k_asm); (case k3w65 => (first | exact ne_lt (by assumption) | exact ne_app (by assumption) (by assumption))); (case k4w65 => omega); (case k5w65 => (first | exact Or.inl ⟨by omega, by omega, rfl⟩ | exact Or.inr ⟨by decide, by omega, rfl⟩)); intro h'w F'w N'w))
  trivial
theorem sum_leT {b : Nat} : ∀ {ys : List Str}, (∀ y ∈ ys, y.length ≤ b) → (ys.map (·.length)).sum ≤ ys.length * b
  | [], _ => by simp
  | y :: r, h => by
    have h1 := h y (.head _)
    have h2 := sum_leT (ys := r) fun z hz => h z (.tail _ hz)
    simp only [List.map_cons, List.sum_cons, List.length_cons, Nat.succ_mul]
    omega
theorem set_short {ls : List (Str × Tok)} {b j : Nat} {q : Str × Tok} (h : ∀ q ∈ ls, q.1.length ≤ b) (hq : q.1.length ≤ b) : ∀ z ∈ ls.set j q, z.1.length ≤ b := fun z hz => by
  rcases List.mem_or_eq_of_mem_set hz with h1 | h1
  · exact h z h1
  · exact h1 ▸ hq
theorem le2030 {ls : List (Str × Tok)} (h : ∀ q ∈ ls, q.1.length ≤ 2010) : ∀ q ∈ ls, q.1.length ≤ 2030 := fun q hq => Nat.le_trans (h q hq) (by omega)
theorem ext_short {q : Str} (h : q.length ≤ 2010) : (Str.ofString ".*" ++ q).length ≤ 2030 := by
  simp only [Str.length_append]
  have e1 : (Str.ofString ".*").length = 2 := by decide
  omega
theorem join_fits {ls : List (Str × Tok)} {n : Nat} (hn : ls.length = n) (hn1 : n ≤ 1000) (hb : ∀ q ∈ ls, q.1.length ≤ 2030) : JoinOk (Str.ofString "") (ls.map (·.1)) = true := by
  refine joinOk_of ?_
  have h1 : ((ls.map (·.1)).map (·.length)).sum ≤ (ls.map (·.1)).length * 2030 := sum_leT fun y hy => by
    obtain ⟨q, hq, rfl⟩ := List.mem_map.mp hy
    exact hb q hq
  have e : (Str.ofString "").length = 0 := by decide
  simp only [List.length_map] at h1 ⊢
  rw [e]
  omega
noncomputable def tailF : List Str → List Str
  | [] => []
  | [q] => [Str.ofString ".*" ++ q]
  | q :: r => wrapP q :: tailF r
noncomputable def partsF : List Str → List Str
  | [] => []
  | [p] => [Str.ofString ".*" ++ p]
  | p :: r => p :: tailF r
noncomputable def transF (P : Params) (x : Str) : Str := Txt.join (Str.ofString "") (partsF ((Txt.split x (Str.ofString "*")).map (escF P)))
theorem tailF_at : ∀ (l : List Str) (j : Nat), (tailF l)[j]? = (l[j]?).map (fun y => if j + 1 < l.length then wrapP y else Str.ofString ".*" ++ y)
  | [], j => by simp [tailF]
  | [q], 0 => by simp [tailF]
  | [q], j + 1 => by simp [tailF]
  | q :: r :: l, 0 => by simp [tailF]
  | q :: r :: l, j + 1 => by simp only [tailF, List.getElem?_cons_succ]; rw [tailF_at (r :: l) j]; simp
theorem partsF_at (l : List Str) (j : Nat) : (partsF l)[j]? = (l[j]?).map (fun y => if j + 1 < l.length then (if 1 ≤ j then wrapP y else y) else Str.ofString ".*" ++ y) := by
  match l, j with
  | [], j => simp [partsF]
  | [q], 0 => simp [partsF]
  | [q], j + 1 => simp [partsF]
  | q :: r :: l, 0 => simp [partsF]
  | q :: r :: l, j + 1 => simp only [partsF, List.getElem?_cons_succ]; rw [tailF_at (r :: l) j]; simp
theorem WrapI.nil {ls : List (Str × Tok)} (h : ∀ q ∈ ls, q.1.length ≤ 2000) : WrapI ls [] ls := ⟨rfl, fun q hq => Nat.le_trans (h q hq) (by omega), fun j => by
  have : ¬ (1 ≤ j ∧ j < [].length (α := Int) + 1) := by simp; omega
  simp only [if_neg this, Option.map_id_fun', id]⟩
theorem WrapI.step {ls ls₁ : List (Str × Tok)} {pre : List Int} {k : Int} {q : Str × Tok} {u : Tok} (h : WrapI ls pre ls₁) (hk : k = 1 + (pre.length : Int)) (hlt : pre.length < ((ls.length : Int) - 1 - 1).toNat)
    (hq : ls₁[k.toNat]? = some q) (hb : ∀ q ∈ ls, q.1.length ≤ 2000) : WrapI ls (pre ++ [k]) (ls₁.set k.toNat (wrapP q.1, u)) := by
  obtain ⟨hl, hb1, hw⟩ := h
  have e : k.toNat = pre.length + 1 := by omega
  rw [e] at hq ⊢
  have hj := hw (pre.length + 1)
  have hlt2 : pre.length + 1 < ls.length := by omega
  rw [hq, List.getElem?_eq_getElem hlt2] at hj
  simp only [Option.map_some, if_neg (show ¬ (1 ≤ pre.length + 1 ∧ pre.length + 1 < pre.length + 1) by omega), Option.some.injEq] at hj
  have hq2 : q.1.length ≤ 2000 := by rw [hj]; exact hb _ (List.getElem_mem _)
  refine ⟨by rw [List.length_set]; exact hl, set_short hb1 ?_, fun j => ?_⟩
  · show (wrapP q.1).length ≤ 2010
    unfold wrapP
    simp only [Str.length_append]
    have e1 : (Str.ofString "(?>.*?").length = 6 := by decide
    have e2 : (Str.ofString ")").length = 1 := by decide
    omega
  · rw [List.getElem?_set]
    by_cases c : pre.length + 1 = j
    · subst c
      rw [if_pos rfl, List.getElem?_eq_getElem hlt2, if_pos (by omega), hj]
      simp
    · rw [if_neg c, hw j]
      congr 1
      funext y
      have : (1 ≤ j ∧ j < pre.length + 1) ↔ (1 ≤ j ∧ j < (pre ++ [k]).length + 1) := by simp; omega
      simp only [this]
theorem WrapI.last {ls ls₁ l0 : List (Str × Tok)} {n j : Nat} {q : Str × Tok} {u : Tok} {P : Params} {x : Str} (h : WrapI ls (rangeKs 1 n) ls₁) (hn : n = ((ls.length : Int) - 1 - 1).toNat) (h0 : 1 ≤ ls.length)
    (hj : PlaceOf (-1) ls₁.length j) (hq : ls₁[j]? = some q) (e0 : l0.map (·.1) = Txt.split x (Str.ofString "*")) (e1 : ls.map (·.1) = l0.map (fun q => escF P q.1)) :
    (ls₁.set j (Str.ofString ".*" ++ q.1, u)).map (·.1) = partsF ((Txt.split x (Str.ofString "*")).map (escF P)) := by
  obtain ⟨hl, hb1, hw⟩ := h
  have e2 : (Txt.split x (Str.ofString "*")).map (escF P) = ls.map (·.1) := by rw [e1, ← e0]; simp
  rw [e2]
  have ej : j + 1 = ls.length := by rcases hj with h | h <;> omega
  have er : (rangeKs 1 n).length = n := by simp [rangeKs]
  apply List.ext_getElem?
  intro i
  rw [partsF_at, List.map_set, List.getElem?_set]
  simp only [List.length_map, List.getElem?_map]
  by_cases c : j = i
  · subst c
    have hwj := hw j
    have hlt : j < ls.length := by omega
    rw [hq, List.getElem?_eq_getElem hlt, er] at hwj
    simp only [Option.map_some, if_neg (show ¬ (1 ≤ j ∧ j < n + 1) by omega), Option.some.injEq] at hwj
    rw [if_pos rfl, if_pos (by omega), List.getElem?_eq_getElem hlt]
    simp only [Option.map_some, if_neg (show ¬ (j + 1 < ls.length) by omega), hwj]
  · rw [if_neg c, hw i, er]
    rcases Nat.lt_or_ge i ls.length with hi | hi
    · rw [List.getElem?_eq_getElem hi]
      simp only [Option.map_some]
      rw [if_pos (show i + 1 < ls.length by omega)]
      by_cases c2 : 1 ≤ i
      · rw [if_pos ⟨c2, by omega⟩, if_pos c2]
      · rw [if_neg (fun h => c2 h.1), if_neg c2]
    · rw [List.getElem?_eq_none hi]
      simp
example : True := by
  k_with "call builtin:str.join" => ((k_here; k_dflt (refine' SC.join ?k1w66 rfl ?k3w66 ?_); (case k1w66 => exact News.isList (by assumption) (List.Mem.head _)); (case k3w66 => exact join_fits ((List.length_set ..).trans (by assumption)) (by omega) (set_short (le2030 (by assumption)) (ext_short (by assumption)))); intro t'w tk'w))
  trivial
namespace Tr
noncomputable def S0 (prog : Program) (w : World) (news : List (Addr × Obj)) (x : Str) (t : Tok) (p : Program) (loose : List Str) (mean : ExcName → Option Value) (mg : Str → Option Value) (mb : Str → Option Value) (dp : Nat) (un : Nat) (gd : Option (List Code)) (cn : Str) (cs : Scope) (a : Addr) (ccd : Value) (cl : List (Str × Addr)) (outer : List Env) (A₀ : Around) (base : Heap) (h₀ : Heap) (L : Addr) (m : Str → Option Value) (s : Shared) (Q : Value → Shared → Prop) (E : Value → Shared → Prop) : Prop :=
  x.length ≤ 900 → 
  Comesv prog w 10 100 75 news [.str x t] (fun v nw => nw = [] ∧ ∃ t', v = .str (transF w.params x) t') p loose mean mg mb dp un gd cn cs a ccd cl outer A₀ base h₀ L m s Q E
noncomputable def P0 (x : Program × World × (List (Addr × Obj)) × Str × Tok × Program × List Str × (ExcName → Option Value) × (Str → Option Value) × (Str → Option Value) × Nat × Nat × Option (List Code) × Str × Scope × Addr × Value × (List (Str × Addr)) × List Env × Around × Heap × Heap × Addr × (Str → Option Value) × Shared × (Value → Shared → Prop) × (Value → Shared → Prop)) : Prop := S0 x.1 x.2.1 x.2.2.1 x.2.2.2.1 x.2.2.2.2.1 x.2.2.2.2.2.1 x.2.2.2.2.2.2.1 x.2.2.2.2.2.2.2.1 x.2.2.2.2.2.2.2.2.1 x.2.2.2.2.2.2.2.2.2.1 x.2.2.2.2.2.2.2.2.2.2.1 x.2.2.2.2.2.2.2.2.2.2.2.1 x.2.2.2.2.2.2.2.2.2.2.2.2.1 x.2.2.2.2.2.2.2.2.2.2.2.2.2.1 x.2.2.2.2.2.2.2.2.2.2.2.2.2.2.1 x.2.2.2.2.2.2.2.2.2.2.2.2.2.2.2.1 x.2.2.2.2.2.2.2.2.2.2.2.2.2.2.2.2.1 x.2.2.2.2.2.2.2.2.2.2.2.2.2.2.2.2.2.1 x.2.2.2.2.2.2.2.2.2.2.2.2.2.2.2.2.2.2.1 x.2.2.2.2.2.2.2.2.2.2.2.2.2.2.2.2.2.2.2.1 x.2.2.2.2.2.2.2.2.2.2.2.2.2.2.2.2.2.2.2.2.1 x.2.2.2.2.2.2.2.2.2.2.2.2.2.2.2.2.2.2.2.2.2.1 x.2.2.2.2.2.2.2.2.2.2.2.2.2.2.2.2.2.2.2.2.2.2.1 x.2.2.2.2.2.2.2.2.2.2.2.2.2.2.2.2.2.2.2.2.2.2.2.1 x.2.2.2.2.2.2.2.2.2.2.2.2.2.2.2.2.2.2.2.2.2.2.2.2.1 x.2.2.2.2.2.2.2.2.2.2.2.2.2.2.2.2.2.2.2.2.2.2.2.2.2.1 x.2.2.2.2.2.2.2.2.2.2.2.2.2.2.2.2.2.2.2.2.2.2.2.2.2.2
noncomputable def k0 : Program × World × (List (Addr × Obj)) × Str × Tok × Program × List Str × (ExcName → Option Value) × (Str → Option Value) × (Str → Option Value) × Nat × Nat × Option (List Code) × Str × Scope × Addr × Value × (List (Str × Addr)) × List Env × Around × Heap × Heap × Addr × (Str → Option Value) × Shared × (Value → Shared → Prop) × (Value → Shared → Prop) := henk (qv, aWorld 1, [], default, default, qv, [], fun _ => none, fun _ => none, fun _ => none, 0, 0, none, default, default, 0, .none, [], [], hen_a, default, default, 0, fun _ => none, hen_s, fun _ _ => True, fun _ _ => True) P0
@[irreducible] noncomputable def prog : Program := k0.1
@[irreducible] noncomputable def w : World := k0.2.1
@[irreducible] noncomputable def news : List (Addr × Obj) := k0.2.2.1
@[irreducible] noncomputable def x : Str := k0.2.2.2.1
@[irreducible] noncomputable def t : Tok := k0.2.2.2.2.1
@[irreducible] noncomputable def p : Program := k0.2.2.2.2.2.1
@[irreducible] noncomputable def loose : List Str := k0.2.2.2.2.2.2.1
@[irreducible] noncomputable def mean : ExcName → Option Value := k0.2.2.2.2.2.2.2.1
@[irreducible] noncomputable def mg : Str → Option Value := k0.2.2.2.2.2.2.2.2.1
@[irreducible] noncomputable def mb : Str → Option Value := k0.2.2.2.2.2.2.2.2.2.1
@[irreducible] noncomputable def dp : Nat := k0.2.2.2.2.2.2.2.2.2.2.1
@[irreducible] noncomputable def un : Nat := k0.2.2.2.2.2.2.2.2.2.2.2.1
@[irreducible] noncomputable def gd : Option (List Code) := k0.2.2.2.2.2.2.2.2.2.2.2.2.1
@[irreducible] noncomputable def cn : Str := k0.2.2.2.2.2.2.2.2.2.2.2.2.2.1
@[irreducible] noncomputable def cs : Scope := k0.2.2.2.2.2.2.2.2.2.2.2.2.2.2.1
@[irreducible] noncomputable def a : Addr := k0.2.2.2.2.2.2.2.2.2.2.2.2.2.2.2.1
@[irreducible] noncomputable def ccd : Value := k0.2.2.2.2.2.2.2.2.2.2.2.2.2.2.2.2.1
@[irreducible] noncomputable def cl : List (Str × Addr) := k0.2.2.2.2.2.2.2.2.2.2.2.2.2.2.2.2.2.1
@[irreducible] noncomputable def outer : List Env := k0.2.2.2.2.2.2.2.2.2.2.2.2.2.2.2.2.2.2.1
@[irreducible] noncomputable def A₀ : Around := k0.2.2.2.2.2.2.2.2.2.2.2.2.2.2.2.2.2.2.2.1
@[irreducible] noncomputable def base : Heap := k0.2.2.2.2.2.2.2.2.2.2.2.2.2.2.2.2.2.2.2.2.1
@[irreducible] noncomputable def h₀ : Heap := k0.2.2.2.2.2.2.2.2.2.2.2.2.2.2.2.2.2.2.2.2.2.1
@[irreducible] noncomputable def L : Addr := k0.2.2.2.2.2.2.2.2.2.2.2.2.2.2.2.2.2.2.2.2.2.2.1
@[irreducible] noncomputable def m : Str → Option Value := k0.2.2.2.2.2.2.2.2.2.2.2.2.2.2.2.2.2.2.2.2.2.2.2.1
@[irreducible] noncomputable def s : Shared := k0.2.2.2.2.2.2.2.2.2.2.2.2.2.2.2.2.2.2.2.2.2.2.2.2.1
@[irreducible] noncomputable def Q : Value → Shared → Prop := k0.2.2.2.2.2.2.2.2.2.2.2.2.2.2.2.2.2.2.2.2.2.2.2.2.2.1
@[irreducible] noncomputable def E : Value → Shared → Prop := k0.2.2.2.2.2.2.2.2.2.2.2.2.2.2.2.2.2.2.2.2.2.2.2.2.2.2
theorem main : S0 prog w news x t p loose mean mg mb dp un gd cn cs a ccd cl outer A₀ base h₀ L m s Q E := by
  unfold S0 Comesv
  intro hx B F X N T hk hd hu hret
  refine wpAny_call ?_
  k_dflt cell_enter
  (k_with "pyIter ref" => ((with_reducible show wpAny _ _ (pyIter (Value.ref _)) (fun it s₂ => LoopAtV _ _ _ _ _ _ _ _ _ it s₂) _ _); (rename Fr _ _ _ _ => lF'); (rename News _ _ _ _ => lN'); (rename IsRange _ _ _ _ _ _ _ _ => rgX); with_unfolding_all refine' parts_range WrapI (by rfl) rgX (small_one (by omega) (by omega) (by omega) (by omega)) (rangeSize_nat _ _) lF' lN' ?k3 (fun ls1 pre kk t5 h5 tk5 own5 hk5 hlt5 off5 ⟨hl5, hb5, hw5⟩ F5 N5 => ?k4) (fun ls1 u5 h5 tk5 ⟨hl5, hb5, hw5⟩ F5 N5 => ?k5)))
  k_steps
  · exact WrapI.nil (by assumption)
  · exact ⟨.inl rfl, _, _, _, _, rfl, by assumption, fun z h => by simp [h], by assumption, WrapI.step ⟨hl5, hb5, hw5⟩ hk5 hlt5 (by assumption) (by assumption)⟩
  · exact hret _ [] _ _ ⟨rfl, _, congrArg (Value.str · _) (congrArg (Txt.join _) (WrapI.last ⟨hl5, hb5, hw5⟩ rfl (by omega) (Or.inr ⟨by decide, by omega, rfl⟩) (by assumption) (by assumption) (by assumption)))⟩ (by assumption) (KStt.news_of (by assumption) (fun p hp => .tail _ (.tail _ hp)))
end Tr
theorem translate_call (prog : Program) (w : World) (news : List (Addr × Obj)) (x : Str) (t : Tok) (hx : x.length ≤ 900) :
    Comes prog w 10 100 75 news [.str x t] (fun v nw => nw = [] ∧ ∃ t', v = .str (transF w.params x) t') := fun p loose mean mg mb dp un gd cn cs a ccd cl outer A₀ base h₀ L m s Q E => henk_all (P := Tr.P0) (by with_unfolding_all exact Tr.main) (prog, w, news, x, t, p, loose, mean, mg, mb, dp, un, gd, cn, cs, a, ccd, cl, outer, A₀, base, h₀, L, m, s, Q, E) hx
end Lw
end
example : True := by k_with_none; w_top off; trivial
section
open PySem PySem.W PyProof.Rows
set_option maxRecDepth 10000
namespace Lw
open PySem.W.KStt (codes txt)
noncomputable def joinL : List (List Nat) → List Nat
  | [] => []
  | [p] => p
  | p :: r => p ++ 42 :: joinL r
theorem splitL_joinL : ∀ {ps : List (List Nat)}, ps ≠ [] → (∀ p ∈ ps, 42 ∉ p) → splitL (joinL ps) = ps
  | [], h, _ => absurd rfl h
  | [p], _, h => splitL_one p (h p (.head _))
  | p :: q :: r, _, h => by
    show splitL (p ++ 42 :: joinL (q :: r)) = _
    rw [splitL_app p _ (h p (.head _)), splitL_joinL (by simp) fun z hz => h z (.tail _ hz)]
theorem joinL_splitL : ∀ l : List Nat, joinL (splitL l) = l
  | [] => rfl
  | c :: r => by
    have ih := joinL_splitL r
    have hne := splitL_ne r
    unfold splitL
    split
    · rename_i e
      subst e
      cases hs : splitL r with
      | nil => exact absurd hs hne
      | cons a t =>
        show [] ++ 42 :: joinL (a :: t) = _
        rw [← hs, ih]
        rfl
    · split
      · rename_i hs
        exact absurd hs hne
      · rename_i a t hs
        rw [hs] at ih
        cases t with
        | nil => exact congrArg (c :: ·) ih
        | cons b t => exact congrArg (c :: ·) ih
theorem splitL_free : ∀ (l p : List Nat), p ∈ splitL l → 42 ∉ p
  | [], p, h => by
    have : p = [] := by simpa [splitL] using h
    subst this
    simp
  | c :: r, p, h => by
    unfold splitL at h
    split at h
    · rcases List.mem_cons.mp h with rfl | h
      · simp
      · exact splitL_free r p h
    · rename_i hc
      split at h
      · have : p = [c] := by simpa using h
        subst this
        simpa using fun e => hc e.symm
      · rename_i a t hs
        rcases List.mem_cons.mp h with rfl | h
        · have := splitL_free r a (hs ▸ .head _)
          simp only [List.mem_cons, not_or]
          exact ⟨fun e => hc e.symm, this⟩
        · exact splitL_free r p (hs ▸ .tail _ h)
theorem splitL_sub : ∀ (l p : List Nat), p ∈ splitL l → ∀ c ∈ p, c ∈ l
  | [], p, h, c, hc => by
    have : p = [] := by simpa [splitL] using h
    subst this
    exact hc
  | d :: r, p, h, c, hc => by
    unfold splitL at h
    split at h
    · rcases List.mem_cons.mp h with rfl | h
      · exact nomatch hc
      · exact .tail _ (splitL_sub r p h c hc)
    · split at h
      · have : p = [d] := by simpa using h
        subst this
        have : c = d := by simpa using hc
        subst this
        exact .head _
      · rename_i a t hs
        rcases List.mem_cons.mp h with rfl | h
        · rcases List.mem_cons.mp hc with rfl | hc
          · exact .head _
          · exact .tail _ (splitL_sub r a (hs ▸ .head _) c hc)
        · exact .tail _ (splitL_sub r p (hs ▸ .tail _ h) c hc)
theorem star_eq' : Str.ofString "*" = ⟨#[42]⟩ := by decide +kernel
theorem join_list : ∀ ps : List Str, (Str.join (Str.ofString "*") ps).cps.toList = joinL (ps.map fun p => p.cps.toList)
  | [] => rfl
  | [p] => rfl
  | p :: q :: r => by
    have h := join_list (q :: r)
    show ((p ++ Str.ofString "*" ++ Str.join (Str.ofString "*") (q :: r)).cps).toList = _
    have e : ∀ a b : Str, (a ++ b).cps.toList = a.cps.toList ++ b.cps.toList := fun a b => Array.toList_append
    rw [e, e, h, star_eq']
    simp [joinL]
theorem ofL_cps (l : List Nat) : (ofL l).cps.toList = l := by simp [ofL]
theorem ofL_of (x : Str) : ofL x.cps.toList = x := by
  cases x; simp [ofL]
theorem split_raw (x : Str) : Txt.split x (Str.ofString "*") = rawF x := by
  have h1 := StrLaws.join_split x (Str.ofString "*")
  have h2 : ∀ p ∈ Txt.split x (Str.ofString "*"), 42 ∉ p.cps.toList := by
    rw [star_eq']
    exact StrLaws.split_free x 42
  have hne : Txt.split x (Str.ofString "*") ≠ [] := fun e => by
    have := split_pos x (Str.ofString "*")
    rw [e] at this
    simp at this
  generalize Txt.split x (Str.ofString "*") = ps at h1 h2 hne
  have h3 := join_list ps
  rw [h1] at h3
  unfold rawF
  rw [h3, splitL_joinL (by simpa using hne) (fun p hp => by
    obtain ⟨q, hq, rfl⟩ := List.mem_map.mp hp
    exact h2 q hq), List.map_map]
  conv => lhs; rw [← List.map_id ps]
  exact List.map_congr_left fun p _ => (ofL_of p).symm
theorem join_raw (x : Str) : Txt.join (Str.ofString "*") (rawF x) = x := by
  show PySem.Builtin.Str.glued _ _ = _
  rw [StrLaws.glued_eq_join, ← split_raw]
  exact StrLaws.join_split x _
noncomputable def six : List Nat := [97, 98, 46, 40, 41, 63]
noncomputable def esc1 (c : Nat) : List Nat := if c = 46 ∨ c = 40 ∨ c = 41 ∨ c = 63 then [92, c] else [c]
noncomputable def escL (l : List Nat) : List Nat := l.flatMap esc1
theorem esc_six (P : Params) : ∀ c ∈ six, escOf (spF P) c = esc1 c := by
  intro c hc
  simp only [six, List.mem_cons, List.not_mem_nil, or_false] at hc
  rcases hc with rfl | rfl | rfl | rfl | rfl | rfl
  · kernel_rfl
  · kernel_rfl
  · kernel_rfl
  · kernel_rfl
  · kernel_rfl
  · kernel_rfl
theorem escF_six {P : Params} {l : List Nat} (h : ∀ c ∈ l, c ∈ six) : escF P (ofL l) = ofL (escL l) := by
  unfold escF
  rw [ofL_cps]
  show ofL _ = ofL _
  congr 1
  unfold escL
  induction l with
  | nil => rfl
  | cons c r ih =>
    rw [List.flatMap_cons, List.flatMap_cons, esc_six P c (h c (.head _)), ih fun z hz => h z (.tail _ hz)]
theorem escL_free {l : List Nat} (h : ∀ c ∈ l, c ∈ six) : 42 ∉ escL l := fun hm => by
  obtain ⟨c, hc, hcm⟩ := List.mem_flatMap.mp hm
  have h6 := h c hc
  simp only [six, List.mem_cons, List.not_mem_nil, or_false] at h6
  rcases h6 with rfl | rfl | rfl | rfl | rfl | rfl <;> simp [esc1] at hcm
theorem plainRun_esc : ∀ {l : List Nat} {s : List Int}, (∀ c ∈ l, c ∈ six) → plainRun ((escL l).map fun (c : Nat) => (c : Int)) s false = some (s ++ l.map (fun (c : Nat) => (c : Int)), false)
  | [], s, _ => by simp [escL, plainRun]
  | c :: r, s, h => by
    have h6 := h c (.head _)
    have ih := fun s => plainRun_esc (l := r) (s := s) fun z hz => h z (.tail _ hz)
    have e : escL (c :: r) = esc1 c ++ escL r := List.flatMap_cons
    rw [e, List.map_append, plainRun_append]
    have h1 : plainRun ((esc1 c).map fun (c : Nat) => (c : Int)) s false = some (s ++ [(c : Int)], false) := by
      simp only [six, List.mem_cons, List.not_mem_nil, or_false] at h6
      rcases h6 with rfl | rfl | rfl | rfl | rfl | rfl <;> rfl
    rw [h1, Option.bind_some, ih]
    simp
theorem plain_esc {l : List Nat} (h : ∀ c ∈ l, c ∈ six) : plainF (ofL (escL l)) = some (ofL l) := by
  unfold plainF
  have e : codes (ofL (escL l)) = (escL l).map fun (c : Nat) => (c : Int) := by
    unfold PySem.W.KStt.codes
    rw [ofL_cps]
  rw [e, plainRun_esc h]
  show some (txt _) = _
  rw [List.nil_append]
  unfold PySem.W.KStt.txt ofL
  rw [List.map_map]
  congr 2
  congr 1
  conv => rhs; rw [← List.map_id l]
  exact List.map_congr_left fun c _ => rfl
noncomputable def tailL : List (List Nat) → List Nat
  | [] => []
  | [q] => [46, 42] ++ q
  | q :: r => [40, 63, 62, 46, 42, 63] ++ q ++ [41] ++ tailL r
noncomputable def patL : List (List Nat) → List Nat
  | [] => []
  | [p] => [46, 42] ++ p
  | p :: r => p ++ tailL r
theorem app_cps (a b : Str) : (a ++ b).cps.toList = a.cps.toList ++ b.cps.toList := Array.toList_append
theorem cat_list : ∀ ps : List Str, (Str.join (Str.ofString "") ps).cps.toList = (ps.map fun p => p.cps.toList).flatten
  | [] => rfl
  | [p] => by simp [Str.join]
  | p :: q :: r => by
    have h := cat_list (q :: r)
    show ((p ++ Str.ofString "" ++ Str.join (Str.ofString "") (q :: r)).cps).toList = _
    rw [app_cps, app_cps, h]
    have e : (Str.ofString "").cps.toList = [] := by decide +kernel
    rw [e]
    simp
theorem tail_list : ∀ ps : List Str, ((tailF ps).map fun p => p.cps.toList).flatten = tailL (ps.map fun p => p.cps.toList)
  | [] => rfl
  | [q] => by
    simp only [tailF, List.map_cons, List.map_nil, List.flatten_cons, List.flatten_nil, List.append_nil, tailL, app_cps]
    congr 1
  | q :: q' :: r => by
    have h := tail_list (q' :: r)
    simp only [tailF, List.map_cons, List.flatten_cons, tailL, wrapP, app_cps] at h ⊢
    rw [h]
    have e1 : (Str.ofString "(?>.*?").cps.toList = [40, 63, 62, 46, 42, 63] := by decide +kernel
    have e2 : (Str.ofString ")").cps.toList = [41] := by decide +kernel
    rw [e1, e2]
theorem pat_list {ps : List Str} (_h : ps ≠ []) : ((partsF ps).map fun p => p.cps.toList).flatten = patL (ps.map fun p => p.cps.toList) := by
  match ps with
  | [] => rfl
  | [p] =>
    simp only [partsF, List.map_cons, List.map_nil, List.flatten_cons, List.flatten_nil, List.append_nil, patL, app_cps]
    congr 1
  | p :: q :: r =>
    have h := tail_list (q :: r)
    simp only [partsF, List.map_cons, List.flatten_cons, patL] at h ⊢
    rw [h]
theorem trans_list {P : Params} {x : Str} (h : ∀ c ∈ x.cps.toList, c ∈ six ∨ c = 42) : (transF P x).cps.toList = patL ((splitL x.cps.toList).map escL) := by
  unfold transF
  show (PySem.Builtin.Str.glued _ _).cps.toList = _
  rw [StrLaws.glued_eq_join, cat_list, split_raw]
  unfold rawF
  have hs : ∀ p ∈ splitL x.cps.toList, ∀ c ∈ p, c ∈ six := fun p hp c hc => by
    rcases h c (splitL_sub _ p hp c hc) with h | h
    · exact h
    · subst h; exact absurd hc (splitL_free _ p hp)
  have e : ((splitL x.cps.toList).map ofL).map (escF P) = ((splitL x.cps.toList).map escL).map ofL := by
    rw [List.map_map, List.map_map]
    exact List.map_congr_left fun p hp => escF_six (hs p hp)
  rw [e, pat_list (by simpa using splitL_ne _), List.map_map]
  congr 1
  conv => rhs; rw [← List.map_id ((splitL x.cps.toList).map escL)]
  exact List.map_congr_left fun p _ => ofL_cps p
end Lw
end
example : True := by k_with_none; w_top off; trivial
section
open PySem PySem.W PyProof.Rows
set_option maxRecDepth 10000
namespace Lw
example : True := by
  k_with_none
  k_with "omega" => ((fail_if_success (fail_if_success (omega (config := {})))); first | lia | omega (config := {}))
  trivial
noncomputable def rawR (u : List Nat) : List (List Nat) → List (List Nat)
  | [] => [u]
  | [q] => [u ++ [46], q]
  | q :: r => (u ++ [40, 63, 62, 46]) :: rawR ([63] ++ q ++ [41]) r
theorem splitL_tail : ∀ {rest : List (List Nat)} {u : List Nat}, rest ≠ [] → 42 ∉ u → (∀ q ∈ rest, 42 ∉ q) → splitL (u ++ tailL rest) = rawR u rest
  | [], _, h, _, _ => absurd rfl h
  | [q], u, _, hu, hq => by
    have e : u ++ tailL [q] = (u ++ [46]) ++ 42 :: q := by simp [tailL]
    rw [e, splitL_app _ _ (by simpa using hu), splitL_one q (hq q (.head _))]
    rfl
  | q :: q' :: r, u, _, hu, hq => by
    have e : u ++ tailL (q :: q' :: r) = (u ++ [40, 63, 62, 46]) ++ 42 :: (([63] ++ q ++ [41]) ++ tailL (q' :: r)) := by simp [tailL]
    rw [e, splitL_app _ _ (by simpa using hu), splitL_tail (by simp) (by simpa using hq q (.head _)) fun z hz => hq z (.tail _ hz)]
    rfl
noncomputable def frN (last j : Nat) : List Nat := if 0 < j ∧ j < last then [63] else []
noncomputable def bhN (last j : Nat) : List Nat := if j < last then (if j ≠ 0 then [41] else []) ++ (if j + 1 = last then [46] else [40, 63, 62, 46]) else []
noncomputable def preL (i : Nat) (p : List Nat) : List Nat := (if 0 < i then [63] else []) ++ p ++ (if i ≠ 0 then [41] else [])
theorem rawR_at : ∀ {rest : List (List Nat)} {p : List Nat} {i last : Nat} {k : Nat}, rest ≠ [] → last = i + rest.length → (rawR (preL i p) rest)[k]? = ((p :: rest)[k]?).map fun e => frN last (i + k) ++ e ++ bhN last (i + k)
  | [], _, _, _, _, h, _ => absurd rfl h
  | [q], p, i, last, 0, _, hl => by
    have h1 : i < last := by simp at hl; omega
    have h2 : i + 1 = last := by simp at hl; omega
    simp only [rawR, List.getElem?_cons_zero, Option.map_some, Nat.add_zero, frN, bhN, preL, h1, h2, and_true, if_true, List.append_assoc]
  | [q], p, i, last, 1, _, hl => by
    have h2 : ¬ i + 1 < last := by simp at hl; omega
    simp [rawR, frN, bhN, h2]
  | [q], p, i, last, k + 2, _, hl => by simp [rawR]
  | q :: q' :: r, p, i, last, 0, _, hl => by
    have h1 : i < last := by simp at hl; omega
    have h2 : ¬ i + 1 = last := by simp at hl; omega
    simp only [rawR, List.getElem?_cons_zero, Option.map_some, Nat.add_zero, frN, bhN, preL, h1, h2, and_true, if_true, if_false, List.append_assoc]
  | q :: q' :: r, p, i, last, k + 1, _, hl => by
    have ih := rawR_at (rest := q' :: r) (p := q) (i := i + 1) (last := last) (k := k) (by simp) (by simp at hl ⊢; omega)
    have e : preL (i + 1) q = [63] ++ q ++ [41] := by simp [preL]
    rw [e] at ih
    show (rawR ([63] ++ q ++ [41]) (q' :: r))[k]? = _
    rw [ih, show i + 1 + k = i + (k + 1) by omega]
    rfl
theorem rawR_length : ∀ {rest : List (List Nat)} {u : List Nat}, rest ≠ [] → (rawR u rest).length = rest.length + 1
  | [], _, h => absurd rfl h
  | [q], _, _ => rfl
  | q :: q' :: r, u, _ => by
    show (rawR _ (q' :: r)).length + 1 = _
    rw [rawR_length (by simp)]
    rfl
theorem ofL_len (l : List Nat) : (ofL l).length = l.length := by simp [ofL, Str.length]
theorem frontF_ofL (last j : Nat) : frontF (last : Int) (j : Int) = ofL (frN last j) := by
  unfold frontF frN
  by_cases h : 0 < j ∧ j < last
  · rw [if_pos (by simp only [decide_eq_true_eq]; omega), if_pos h]
    decide +kernel
  · rw [if_neg (by simp only [decide_eq_true_eq]; omega), if_neg h]
    decide +kernel
theorem ofL_app (a b : List Nat) : ofL a ++ ofL b = ofL (a ++ b) := by
  show (⟨(ofL a).cps ++ (ofL b).cps⟩ : Str) = _
  simp [ofL]
theorem behindF_ofL (last j : Nat) : behindF (last : Int) (j : Int) = ofL (bhN last j) := by
  unfold behindF bhN
  by_cases h : j < last
  · rw [if_pos (by omega), if_pos h, ← ofL_app]
    congr 1
    · unfold closeF
      by_cases h2 : j ≠ 0
      · rw [if_pos (by simp only [decide_eq_true_eq]; omega), if_pos h2]
        decide +kernel
      · rw [if_neg (by simp only [decide_eq_true_eq]; omega), if_neg h2]
        decide +kernel
    · unfold tailQ
      by_cases h2 : j + 1 = last
      · rw [if_pos (by simp only [decide_eq_true_eq]; omega), if_pos h2]
        decide +kernel
      · rw [if_neg (by simp only [decide_eq_true_eq]; omega), if_neg h2]
        decide +kernel
  · rw [if_neg (by omega), if_neg h]
    decide +kernel
theorem piece_at {last j : Nat} {p : List Nat} (h : ∀ c ∈ p, c ∈ six) : pieceAt (last : Int) (j : Int) (ofL (frN last j ++ escL p ++ bhN last j)) = some (ofL p) := by
  generalize ha : frN last j = a
  generalize hc : bhN last j = c
  have hb := plain_esc h
  generalize escL p = b at hb
  have hl : (ofL (a ++ b ++ c)).length = a.length + b.length + c.length := by rw [ofL_len, List.length_append, List.length_append]
  have hf : frontF (last : Int) (j : Int) = ofL a := by rw [frontF_ofL, ha]
  refine pa_s (bt := ofL c) (bl := c.length) (by rw [behindF_ofL, hc]) (ofL_len c) ?_ ?_ ?_ ?_
  · rw [hf, hl, ofL_len]; omega
  · rw [hf]
    unfold Txt.startswith
    rw [StrLaws.subAt_eq, hl, ofL_len, ofL_cps, ofL_cps]
    simp
    omega
  · unfold Txt.endswith
    rw [StrLaws.subAt_eq, hl, ofL_len, ofL_cps, ofL_cps]
    rw [show a.length + b.length + c.length - c.length = (a ++ b).length by simp, List.drop_left]
    simp
  · rw [hf, hl, ofL_len, slice_eq (by omega) (by omega), ofL_cps]
    rw [show ((a.length : Int)).toNat = a.length by omega, show (((a.length + b.length + c.length : Nat) : Int) - (c.length : Int) - (a.length : Int)).toNat = b.length by omega, List.append_assoc, List.drop_left, List.take_left]
    exact hb
theorem pieces_to {ps : List (List Nat)} {raw : List Str} {last : Nat} (h : ∀ p ∈ ps, ∀ c ∈ p, c ∈ six) (hr : ∀ k, raw[k]? = (ps[k]?).map fun p => ofL (frN last k ++ escL p ++ bhN last k)) : ∀ n, n ≤ ps.length → piecesTo (last : Int) raw n = some ((ps.take n).map ofL)
  | 0, _ => by simp [piecesTo]
  | n + 1, hn => by
    obtain ⟨p, hp⟩ : ∃ p, ps[n]? = some p := ⟨_, List.getElem?_eq_getElem (by omega)⟩
    rw [piecesTo, pieces_to h hr n (by omega), Option.bind_some, hr n, hp, Option.map_some, Option.bind_some, piece_at (h p (List.mem_of_getElem? hp)), Option.map_some, List.take_add_one, hp, List.map_append]
    rfl
theorem pieces_law {P : Params} {x : Str} (h : ∀ c ∈ x.cps.toList, c ∈ six ∨ c = 42) : piecesF (transF P x) = some (rawF (wholeF x)) := by
  have hw : ∃ p0 rest, splitL (wholeF x).cps.toList = p0 :: rest ∧ rest ≠ [] ∧ (transF P x).cps.toList = escL p0 ++ tailL (rest.map escL) ∧ ∀ p ∈ p0 :: rest, ∀ c ∈ p, c ∈ six := by
    have hs : ∀ p ∈ splitL x.cps.toList, ∀ c ∈ p, c ∈ six := fun p hp c hc => by
      rcases h c (splitL_sub _ p hp c hc) with h | h
      · exact h
      · subst h; exact absurd hc (splitL_free _ p hp)
    rw [trans_list h]
    unfold wholeF
    by_cases hx : 42 ∈ x.cps.toList
    · rw [if_pos hx]
      obtain ⟨a, b, hab, ha⟩ := List.append_of_mem hx |> fun ⟨a, b, e⟩ => (⟨a, b, e, trivial⟩ : ∃ a b, x.cps.toList = a ++ 42 :: b ∧ True)
      cases hsp : splitL x.cps.toList with
      | nil => exact absurd hsp (splitL_ne _)
      | cons p0 rest =>
        refine ⟨p0, rest, rfl, fun e => ?_, ?_, fun p hp => hs p (hsp ▸ hp)⟩
        · subst e
          have h1 := joinL_splitL x.cps.toList
          rw [hsp] at h1
          have h2 := splitL_free x.cps.toList p0 (hsp ▸ .head _)
          have h3 : p0 = x.cps.toList := h1
          rw [h3] at h2
          exact h2 hx
        · cases rest with
          | nil =>
            exfalso
            have h1 := joinL_splitL x.cps.toList
            rw [hsp] at h1
            have h2 := splitL_free x.cps.toList p0 (hsp ▸ .head _)
            have h3 : p0 = x.cps.toList := h1
            rw [h3] at h2
            exact h2 hx
          | cons q r => rfl
    · rw [if_neg hx, splitL_one _ hx] at *
      refine ⟨[], [x.cps.toList], ?_, by simp, ?_, fun p hp => ?_⟩
      · have e : (Str.ofString "*" ++ x).cps.toList = [] ++ 42 :: x.cps.toList := by rw [app_cps, star_eq']; rfl
        rw [e, splitL_app [] _ (by simp), splitL_one _ hx]
      · rfl
      · rcases List.mem_cons.mp hp with rfl | hp
        · simp
        · exact hs p hp
  obtain ⟨p0, rest, e1, hne, e2, h6⟩ := hw
  have hraw : rawF (transF P x) = (rawR (escL p0) (rest.map escL)).map ofL := by
    unfold rawF
    rw [e2, splitL_tail (by simpa using hne) (escL_free (h6 p0 (.head _))) fun q hq => by
      obtain ⟨p, hp, rfl⟩ := List.mem_map.mp hq
      exact escL_free (h6 p (.tail _ hp))]
  have hlen : (rawF (transF P x)).length = rest.length + 1 := by rw [hraw, List.length_map, rawR_length (by simpa using hne), List.length_map]
  have hr0 := List.length_pos_iff.mpr hne
  unfold piecesF
  rw [if_neg (by omega), hlen]
  have hat : ∀ k, (rawF (transF P x))[k]? = ((p0 :: rest)[k]?).map fun p => ofL (frN rest.length k ++ escL p ++ bhN rest.length k) := fun k => by
    have e := rawR_at (rest := rest.map escL) (p := escL p0) (i := 0) (last := rest.length) (k := k) (by simpa using hne) (by simp)
    have e3 : preL 0 (escL p0) = escL p0 := by simp [preL]
    rw [e3] at e
    rw [hraw, List.getElem?_map, e, show escL p0 :: rest.map escL = (p0 :: rest).map escL from rfl, List.getElem?_map, Nat.zero_add, Option.map_map, Option.map_map]
    rfl
  have := pieces_to (last := rest.length) h6 hat (rest.length + 1) (by simp)
  rw [show ((rest.length + 1 : Nat) : Int) - 1 = (rest.length : Int) by omega, this]
  rw [List.take_of_length_le (by simp)]
  unfold rawF
  rw [e1]
end Lw
end
example : True := by k_with_none; w_top off; trivial
section
open PySem PySem.W PyProof.Rows
set_option maxRecDepth 10000
namespace Lw
example : True := by
  k_with_none
  k_with "omega" => ((fail_if_success (fail_if_success (omega (config := {})))); first | lia | omega (config := {}))
  trivial
open PySem.StrLaws
open PySem.W.KStt (codes txt)
noncomputable def hitL (l q : List Nat) (p : Int) : Bool := q.isPrefixOf (l.drop p.toNat)
theorem hit_cons {l : List Nat} {c : Nat} {q : List Nat} {p : Int} (h : 0 ≤ p) : hitL l (c :: q) p = (decide ((l[p.toNat]?).map Int.ofNat = some (c : Int)) && hitL l q (p + 1)) := by
  unfold hitL
  rw [show (p + 1).toNat = p.toNat + 1 from Int.toNat_add h (by decide)]
  rcases Nat.lt_or_ge p.toNat l.length with c1 | c1
  · rw [List.drop_eq_getElem_cons c1, List.getElem?_eq_getElem c1, List.isPrefixOf, Bool.eq_iff_iff]
    simp only [Bool.and_eq_true, beq_iff_eq, decide_eq_true_eq, Option.map_some, Option.some.injEq]
    have : (Int.ofNat l[p.toNat] = (c : Int)) ↔ c = l[p.toNat] := by
      exact ⟨fun h => (Int.ofNat.inj h).symm, fun h => congrArg Int.ofNat h.symm⟩
    rw [this]
  · rw [List.drop_eq_nil_of_le c1, List.getElem?_eq_none c1]
    simp [List.isPrefixOf]
theorem run_piece {y : Str} : ∀ {q : List Nat} {ps : List Int}, 42 ∉ q → (∀ p ∈ ps, 0 ≤ p) → (q.map fun (c : Nat) => (c : Int)).foldl (farStep y) ps = (ps.filter (hitL y.cps.toList q)).map (· + (q.length : Int))
  | [], ps, _, _ => by
    have : ps.filter (hitL y.cps.toList []) = ps := List.filter_eq_self.mpr fun p _ => by simp [hitL, List.isPrefixOf]
    simp [this]
  | c :: q, ps, h, hp => by
    have hc : (c : Int) ≠ 42 := fun e => h (by have : c = 42 := by omega
                                               rw [this]; exact .head _)
    rw [List.map_cons, List.foldl_cons]
    have e1 : farStep y ps (c : Int) = (ps.filter fun p => decide ((y.cps[p.toNat]?).map Int.ofNat = some (c : Int))).map (· + 1) := by
      unfold farStep
      rw [if_neg hc]
    rw [e1, run_piece (fun hm => h (.tail _ hm)) fun p hm => by
      obtain ⟨p', hp', rfl⟩ := List.mem_map.mp hm
      have := hp p' (List.mem_filter.mp hp').1
      omega, List.filter_map, List.filter_filter, List.map_map]
    have e2 : ps.filter (fun a => ((hitL y.cps.toList q) ∘ fun x => x + 1) a && decide ((y.cps[a.toNat]?).map Int.ofNat = some (c : Int))) = ps.filter (hitL y.cps.toList (c :: q)) := List.filter_congr fun p hm => by
      rw [hit_cons (hp p hm), Bool.and_comm]
      simp [Function.comp]
    rw [e2]
    refine List.map_congr_left fun p _ => ?_
    simp only [Function.comp, List.length_cons]
    omega
theorem hit_at {y : Str} {q : List Nat} {k : Nat} : hitL y.cps.toList q (k : Int) = true ↔ q.length ≤ y.length - k ∧ At y (ofL q) y.length k ∨ (q = [] ∧ y.length < k) := by
  unfold hitL At
  rw [subAt_eq, ofL_cps, ofL_len, show ((k : Int)).toNat = k by omega, List.isPrefixOf_iff_prefix, List.prefix_iff_eq_take]
  have hl : y.length = y.cps.toList.length := by simp [Str.length]
  rw [hl]
  generalize y.cps.toList = l
  simp only [beq_iff_eq]
  constructor
  · intro h
    have h2 := congrArg List.length h
    simp only [List.length_take, List.length_drop] at h2
    by_cases c : k ≤ l.length
    · exact .inl ⟨by omega, by omega, h.symm⟩
    · right
      refine ⟨List.eq_nil_of_length_eq_zero (by omega), by omega⟩
  · rintro (⟨_, _, h⟩ | ⟨rfl, _⟩)
    · exact h.symm
    · simp
theorem hit_iff {y : Str} {q : List Nat} {k : Nat} (hk : k ≤ y.length) : hitL y.cps.toList q (k : Int) = true ↔ At y (ofL q) y.length k := by
  rw [hit_at]
  constructor
  · rintro (⟨_, h⟩ | ⟨_, h⟩)
    · exact h
    · omega
  · intro h
    have := h.1
    rw [ofL_len] at this
    exact .inl ⟨by omega, h⟩
theorem rangeKs_split (a : Int) (m r : Nat) : rangeKs a (m + 1 + r) = rangeKs a m ++ (a + (m : Int)) :: rangeKs (a + (m : Int) + 1) r := by
  unfold rangeKs
  rw [show m + 1 + r = m + (1 + r) by omega, List.range_add, List.map_append, List.map_map]
  congr 1
  rw [show 1 + r = r + 1 by omega, List.range_succ_eq_map, List.map_cons, List.map_map]
  refine List.cons_eq_cons.mpr ⟨by simp, List.map_congr_left fun k _ => ?_⟩
  simp only [Function.comp]
  omega
theorem filt_none {f : Int → Bool} {ps : List Int} (h : ∀ p ∈ ps, f p = false) : ps.filter f = [] := List.filter_eq_nil_iff.mpr fun p hp => by rw [h p hp]; decide
theorem filt_first {f : Int → Bool} {a k : Int} {n : Nat} (h1 : a ≤ k) (h2 : k < a + n) (hk : f k = true) (hn : ∀ j, a ≤ j → j < k → f j = false) : ∃ r, (rangeKs a n).filter f = k :: r := by
  obtain ⟨m, hm⟩ : ∃ m : Nat, k = a + m := ⟨(k - a).toNat, by omega⟩
  subst hm
  rw [show n = m + 1 + (n - m - 1) by omega, rangeKs_split, List.filter_append, filt_none fun p hp => by
    have := mem_rangeKs hp
    exact hn p this.1 (by omega), List.filter_cons, if_pos hk]
  exact ⟨_, rfl⟩
theorem filt_last {f : Int → Bool} {a k : Int} {n : Nat} (h1 : a ≤ k) (h2 : k < a + n) (hk : f k = true) (hn : ∀ j, k < j → j < a + n → f j = false) : ((rangeKs a n).filter f).getLast? = some k := by
  obtain ⟨m, hm⟩ : ∃ m : Nat, k = a + m := ⟨(k - a).toNat, by omega⟩
  subst hm
  rw [show n = m + 1 + (n - m - 1) by omega, rangeKs_split, List.filter_append, List.filter_cons, if_pos hk, filt_none (ps := rangeKs (a + (m : Int) + 1) (n - m - 1)) fun p hp => by
    have := mem_rangeKs hp
    exact hn p (by omega) (by omega)]
  rw [List.getLast?_append]
  simp
noncomputable def starRun (y : Str) (q : List Nat) (ps : List Int) : List Int := ((42 :: q).map fun (c : Nat) => (c : Int)).foldl (farStep y) ps
theorem starRun_nil {y : Str} {q : List Nat} (h : 42 ∉ q) : starRun y q [] = [] := by
  unfold starRun
  rw [List.map_cons, List.foldl_cons]
  show (q.map _).foldl (farStep y) [] = []
  rw [run_piece h fun p hp => absurd hp (List.not_mem_nil)]
  rfl
theorem starRun_cons {y : Str} {q : List Nat} {a : Int} {r : List Int} (h : 42 ∉ q) (ha : 0 ≤ a) : starRun y q (a :: r) = ((rangeKs a ((y.length : Int) + 1 - a).toNat).filter (hitL y.cps.toList q)).map (· + (q.length : Int)) := by
  unfold starRun
  rw [List.map_cons, List.foldl_cons]
  show (q.map _).foldl (farStep y) (rangeKs a ((y.length : Int) + 1 - a).toNat) = _
  exact run_piece h fun p hp => by
    have := mem_rangeKs hp
    omega
theorem starRun_first {y : Str} {q : List Nat} {a : Int} {r : List Int} (h : 42 ∉ q) (ha : 0 ≤ a) (hy : a ≤ y.length) :
    (seekR y (ofL q) a < 0 ∧ seekR y (ofL q) a = -1 ∧ starRun y q (a :: r) = []) ∨ (0 ≤ seekR y (ofL q) a ∧ ∃ r', starRun y q (a :: r) = (seekR y (ofL q) a + (q.length : Int)) :: r' ∧ a ≤ seekR y (ofL q) a ∧ seekR y (ofL q) a + q.length ≤ y.length) := by
  rw [starRun_cons h ha, seek_ge ha]
  rcases seek_spec y (ofL q) a ha with ⟨e, hn⟩ | ⟨k, e, h1, h2, hn⟩
  · left
    refine ⟨by omega, e, ?_⟩
    rw [filt_none fun p hp => ?_]
    · rfl
    · have := mem_rangeKs hp
      obtain ⟨k, rfl⟩ := Int.eq_ofNat_of_zero_le (show 0 ≤ p by omega)
      rw [Bool.eq_false_iff]
      intro hh
      exact hn k this.1 ((hit_iff (by omega)).mp hh)
  · right
    have hl := h2.1
    rw [ofL_len] at hl
    rw [e]
    obtain ⟨r', hr⟩ := filt_first (f := hitL y.cps.toList q) (a := a) (k := (k : Int)) (n := ((y.length : Int) + 1 - a).toNat) h1 (by omega) ((hit_iff (by omega)).mpr h2) fun j h3 h4 => by
      obtain ⟨i, rfl⟩ := Int.eq_ofNat_of_zero_le (show 0 ≤ j by omega)
      rw [Bool.eq_false_iff]
      intro hh
      exact hn i h3 (by omega) ((hit_iff (by omega)).mp hh)
    rw [hr]
    exact ⟨by omega, _, rfl, h1, by omega⟩
noncomputable def midRun (y : Str) (mid : List (List Nat)) (ps : List Int) : List Int := mid.foldl (fun ps q => starRun y q ps) ps
theorem midRun_nil {y : Str} : ∀ {mid : List (List Nat)}, (∀ q ∈ mid, 42 ∉ q) → midRun y mid [] = []
  | [], _ => rfl
  | q :: r, h => by
    show midRun y r (starRun y q []) = []
    rw [starRun_nil (h q (.head _))]
    exact midRun_nil fun z hz => h z (.tail _ hz)
theorem midRun_go {y : Str} : ∀ {mid : List (List Nat)} {a : Int} {r : List Int}, (∀ q ∈ mid, 42 ∉ q) → 0 ≤ a → a ≤ y.length →
    (midGo y a (mid.map ofL) = .inl (-1) ∧ midRun y mid (a :: r) = []) ∨ ∃ place r', midGo y a (mid.map ofL) = .inr place ∧ midRun y mid (a :: r) = place :: r' ∧ 0 ≤ place ∧ place ≤ y.length
  | [], a, r, _, h0, h1 => .inr ⟨a, r, rfl, rfl, h0, h1⟩
  | q :: mid, a, r, h, h0, h1 => by
    have hq := h q (.head _)
    have hm := fun z hz => h z (.tail _ hz)
    rcases starRun_first (r := r) hq h0 h1 with ⟨e1, e2, e3⟩ | ⟨e1, r', e2, e3, e4⟩
    · left
      refine ⟨?_, ?_⟩
      · show midGo y a (ofL q :: mid.map ofL) = _
        rw [midGo, if_pos e1, e2]
      · show midRun y mid (starRun y q (a :: r)) = []
        rw [e3]
        exact midRun_nil hm
    · have ih := midRun_go (mid := mid) (a := seekR y (ofL q) a + (q.length : Int)) (r := r') hm (by omega) e4
      have g1 : midGo y a ((q :: mid).map ofL) = midGo y (seekR y (ofL q) a + (q.length : Int)) (mid.map ofL) := by
        show midGo y a (ofL q :: mid.map ofL) = _
        rw [midGo, if_neg (by omega), ofL_len]
      have g2 : midRun y (q :: mid) (a :: r) = midRun y mid ((seekR y (ofL q) a + (q.length : Int)) :: r') := by
        show midRun y mid (starRun y q (a :: r)) = _
        rw [e2]
      rw [g1, g2]
      exact ih
theorem farRun_join {y : Str} {p0 pl : List Nat} {mid : List (List Nat)} : farRun y ((joinL (p0 :: (mid ++ [pl]))).map fun (c : Nat) => (c : Int)) = starRun y pl (midRun y mid ((p0.map fun (c : Nat) => (c : Int)).foldl (farStep y) [0])) := by
  have key : ∀ (mid : List (List Nat)) (p : List Nat) (ps : List Int), ((joinL (p :: (mid ++ [pl]))).map fun (c : Nat) => (c : Int)).foldl (farStep y) ps = starRun y pl (midRun y mid ((p.map fun (c : Nat) => (c : Int)).foldl (farStep y) ps)) := by
    intro mid
    induction mid with
    | nil =>
      intro p ps
      show ((p ++ 42 :: pl).map _).foldl _ _ = _
      rw [List.map_append, List.foldl_append]
      rfl
    | cons q mid ih =>
      intro p ps
      show ((p ++ 42 :: joinL (q :: (mid ++ [pl]))).map _).foldl _ _ = _
      rw [List.map_append, List.foldl_append, List.map_cons, List.foldl_cons, ih]
      rfl
  exact key mid p0 [0]
theorem codes_eq (x : Str) : codes x = x.cps.toList.map fun (c : Nat) => (c : Int) := rfl
theorem reach_law {x y : Str} {r : Int} (h : ReachIs (rawF (wholeF x)) y r) : r = farF y x := by
  obtain ⟨p0s, mids, pls, hps, h⟩ := h
  have hsp : splitL (wholeF x).cps.toList = p0s.cps.toList :: ((mids.map fun p => p.cps.toList) ++ [pls.cps.toList]) := by
    have h2 := congrArg (List.map fun p : Str => p.cps.toList) hps
    unfold rawF at h2
    rw [List.map_map] at h2
    have e : ((splitL (wholeF x).cps.toList).map ((fun p : Str => p.cps.toList) ∘ ofL)) = splitL (wholeF x).cps.toList := by
      conv => rhs; rw [← List.map_id (splitL (wholeF x).cps.toList)]
      exact List.map_congr_left fun p _ => ofL_cps p
    rw [e] at h2
    rw [h2]
    simp
  have hfree := fun p hp => splitL_free (wholeF x).cps.toList p hp
  rw [hsp] at hfree
  have hj := joinL_splitL (wholeF x).cps.toList
  rw [hsp] at hj
  generalize hp0 : p0s.cps.toList = p0 at hj hfree
  generalize hpl : pls.cps.toList = pl at hj hfree
  generalize hmid : (mids.map fun p => p.cps.toList) = mid at hj hfree
  have e0 : p0s = ofL p0 := by rw [← hp0, ofL_of]
  have el : pls = ofL pl := by rw [← hpl, ofL_of]
  have em : mids = mid.map ofL := by
    rw [← hmid, List.map_map]
    conv => lhs; rw [← List.map_id mids]
    exact List.map_congr_left fun p _ => (ofL_of p).symm
  subst e0 el em
  have f0 := hfree p0 (.head _)
  have fl := hfree pl (.tail _ (List.mem_append_right _ (.head _)))
  have fm : ∀ q ∈ mid, 42 ∉ q := fun q hq => hfree q (.tail _ (List.mem_append_left _ hq))
  unfold farF
  rw [codes_eq, ← hj, farRun_join, run_piece f0 fun p hp => by
    have : p = 0 := by simpa using hp
    omega]
  rw [ofL_len] at h
  have hy0 : hitL y.cps.toList p0 0 = true ↔ Txt.slice y none (some (p0.length : Int)) = ofL p0 := by
    unfold hitL
    rw [List.isPrefixOf_iff_prefix, List.prefix_iff_eq_take]
    have hl : y.length = y.cps.toList.length := by simp [Str.length]
    by_cases c : p0.length ≤ y.length
    · rw [slice_to (by omega) (by omega), show ((p0.length : Int)).toNat = p0.length by omega]
      show p0 = List.take p0.length (List.drop 0 y.cps.toList) ↔ _
      rw [List.drop_zero]
      constructor
      · intro e
        show ofL _ = ofL _
        rw [← e]
      · intro e
        have := congrArg (fun s : Str => s.cps.toList) e
        simpa [ofL] using this.symm
    · constructor
      · intro e
        have h2 := congrArg List.length e
        rw [List.length_take, List.length_drop] at h2
        omega
      · intro e
        have h2 := Txt.slice_le y none (some (p0.length : Int))
        rw [e, ofL_len] at h2
        omega
  rcases h with ⟨hs, rfl⟩ | ⟨hs, h⟩
  · rw [filt_none fun p hp => by
      have : p = 0 := by simpa using hp
      subst this
      rw [Bool.eq_false_iff]
      exact fun e => hs (hy0.mp e), List.map_nil, midRun_nil fm, starRun_nil fl]
    rfl
  · have hle : (p0.length : Int) ≤ y.length := by
      have h2 := Txt.slice_le y none (some (p0.length : Int))
      rw [hs, ofL_len] at h2
      omega
    have e1 : ([(0 : Int)].filter (hitL y.cps.toList p0)).map (· + (p0.length : Int)) = [(p0.length : Int)] := by
      rw [List.filter_cons, if_pos (hy0.mpr hs)]
      simp
    rw [e1]
    rcases midRun_go (r := []) fm (show 0 ≤ (p0.length : Int) by omega) hle with ⟨g1, g2⟩ | ⟨place, r', g1, g2, g3, g4⟩
    · rw [g2, starRun_nil fl]
      rcases h with h | ⟨place, h, _⟩
      · rw [g1] at h
        cases h
        rfl
      · rw [g1] at h
        cases h
    · rw [g2]
      rcases h with h | ⟨place', h, hc⟩
      · rw [g1] at h
        cases h
      · rw [g1] at h
        cases h
        rw [starRun_cons fl g3]
        rcases hc with ⟨c1, rfl⟩ | ⟨c1, c2, rfl⟩ | ⟨c1, far, c2, c3, c4, rfl⟩
        · rcases starRun_first (r := r') fl g3 g4 with ⟨_, e2, e3⟩ | ⟨e2, _⟩
          · rw [starRun_cons fl g3] at e3
            rw [e3, e2]
            rfl
          · omega
        · have hnil : pl = [] := by
            have := congrArg (fun s : Str => s.cps.toList) c2
            have e : (Str.ofString "").cps.toList = [] := by decide +kernel
            rw [ofL_cps, e] at this
            exact this
          subst hnil
          rw [List.getLast?_map, filt_last (k := (y.length : Int)) g4 (by omega) (by simp [hitL, List.isPrefixOf]) fun j h1 h2 => by omega]
          simp
        · have hfar := c3.1
          rw [ofL_len] at hfar
          rw [List.getLast?_map, filt_last (k := (far : Int)) c2 (by omega) ((hit_iff (by omega)).mpr c3) fun j h1 h2 => by
            obtain ⟨i, rfl⟩ := Int.eq_ofNat_of_zero_le (show 0 ≤ j by omega)
            rw [Bool.eq_false_iff]
            intro hh
            exact c4 i (by omega) ((hit_iff (by omega)).mp hh), ofL_len]
          rfl
end Lw
end
example : True := by k_with_none; w_top off; trivial
section
open PySem PySem.W PyProof.Rows
namespace Lw
example : True := by
  k_with_none
  k_with "omega" => ((fail_if_success (fail_if_success (omega (config := {})))); first | lia | omega (config := {}))
  trivial
theorem sign_list {x : Str} {k : Int} : (signF x k).cps.toList = (x.cps.toList.drop (k.fmod (x.length + 1)).toNat).take 1 := by
  have h0 : 0 ≤ k.fmod (x.length + 1) := Int.fmod_nonneg_of_pos _ (by omega)
  unfold signF
  rw [slice_eq h0 (by omega), show (k.fmod (x.length + 1) + 1 - k.fmod (x.length + 1)).toNat = 1 by omega]
theorem text_list {x : Str} {ns : List Int} : (textF x ns).cps.toList = (ns.map fun k => (x.cps.toList.drop (k.fmod (x.length + 1)).toNat).take 1).flatten := by
  unfold textF
  show (PySem.Builtin.Str.glued _ _).cps.toList = _
  rw [StrLaws.glued_eq_join, cat_list, List.map_map]
  congr 1
  exact List.map_congr_left fun k _ => sign_list
theorem text_len {x : Str} {ns : List Int} : (textF x ns).length ≤ ns.length := by
  have h : (textF x ns).length = (textF x ns).cps.toList.length := by simp [Str.length]
  rw [h, text_list]
  clear h
  induction ns with
  | nil => exact Nat.le_refl _
  | cons k r ih =>
    rw [List.map_cons, List.flatten_cons, List.length_append, List.length_take, List.length_cons]
    omega
theorem text_mem {x : Str} {ns : List Int} {c : Nat} (h : c ∈ (textF x ns).cps.toList) : c ∈ x.cps.toList := by
  rw [text_list] at h
  obtain ⟨l, hl, hc⟩ := List.mem_flatten.mp h
  obtain ⟨k, _, rfl⟩ := List.mem_map.mp hl
  exact List.mem_of_mem_drop (List.mem_of_mem_take hc)
theorem path_signs {ns : List Int} : ∀ c ∈ (textF (Str.ofString "ab*.*()?") ns).cps.toList, c ∈ six ∨ c = 42 := fun c hc => by
  have h : ∀ c ∈ (Str.ofString "ab*.*()?").cps.toList, c ∈ six ∨ c = 42 := by decide +kernel
  exact h c (text_mem hc)
theorem repr_fold {l : List Nat} (h : ∀ c ∈ l, Builtin.Str.reprChar 39 c = [c]) : ∀ a : Array Nat, (l.foldl (fun out c => out ++ (Builtin.Str.reprChar 39 c).toArray) a).toList = a.toList ++ l := by
  induction l with
  | nil => intro a; simp
  | cons c r ih =>
    intro a
    rw [List.foldl_cons, ih (fun z hz => h z (.tail _ hz)), h c (.head _)]
    simp
theorem repr_signs {x : Str} (h : ∀ c ∈ x.cps.toList, c ∈ six ∨ c = 42) : reprText x = Str.ofString "'" ++ x ++ Str.ofString "'" := by
  have h1 : ∀ c ∈ six ++ [42], Builtin.Str.reprChar 39 c = [c] ∧ c ≠ 39 := by decide +kernel
  have h2 : ∀ c ∈ x.cps.toList, Builtin.Str.reprChar 39 c = [c] ∧ c ≠ 39 := fun c hc => h1 c (by rcases h c hc with h | h <;> simp [h])
  have hq : reprQuote x = 39 := by
    unfold reprQuote
    rw [if_neg]
    simp only [Bool.and_eq_true, not_and]
    intro e
    have e : x.cps.contains 39 = true := e
    exact absurd rfl (h2 39 (by simpa using e)).2
  have e1 : (Str.ofString "'").cps.toList = [39] := by decide +kernel
  have e2 : (reprText x).cps.toList = (Str.ofString "'" ++ x ++ Str.ofString "'").cps.toList := by
    rw [app_cps, app_cps, e1]
    unfold reprText
    rw [hq, Array.toList_push, ← Array.foldl_toList, repr_fold fun c hc => (h2 c hc).1]
  rw [← ofL_of (reprText x), e2, ofL_of]
noncomputable def pickR (M : Int) (l : List RI) : Value :=
  match l.filter (fun q => decide (q.r = M) && q.tv) with
  | e :: _ => e.v
  | [] => match (l.filter fun q => decide (q.r = M)).getLast? with | some e => e.v | none => .none
noncomputable def sureR (M : Int) (l : List RI) : Bool := l.any fun q => decide (q.r = M) && q.tv
theorem sure_snoc {M : Int} {l : List RI} {q : RI} : sureR M (l ++ [q]) = (sureR M l || (decide (q.r = M) && q.tv)) := by simp [sureR]
theorem pick_ne {M : Int} {l : List RI} {q : RI} (h : q.r ≠ M) : pickR M (l ++ [q]) = pickR M l := by
  unfold pickR
  rw [List.filter_append, List.filter_append, List.filter_cons_of_neg (by simp [h]), List.filter_cons_of_neg (by simp [h])]
  simp
theorem sure_ne {M : Int} {l : List RI} {q : RI} (h : q.r ≠ M) : sureR M (l ++ [q]) = sureR M l := by rw [sure_snoc]; simp [h]
theorem pick_first {M : Int} {l : List RI} {q : RI} (h : sureR M l = true) : pickR M (l ++ [q]) = pickR M l := by
  unfold pickR
  rw [List.filter_append]
  match e : l.filter (fun q => decide (q.r = M) && q.tv) with
  | a :: r => rw [e]; rfl
  | [] =>
    obtain ⟨a, ha, hb⟩ := List.any_eq_true.mp h
    exact absurd hb (by simpa using List.filter_eq_nil_iff.mp e a ha)
theorem pick_last {M : Int} {l : List RI} {q : RI} (h : sureR M l = false) (hq : q.r = M) : pickR M (l ++ [q]) = q.v := by
  unfold pickR
  have e : l.filter (fun q => decide (q.r = M) && q.tv) = [] := List.filter_eq_nil_iff.mpr fun a ha => by
    have := List.any_eq_false.mp h a ha
    simpa using this
  rw [List.filter_append, e, List.nil_append]
  cases hv : q.tv
  · rw [List.filter_cons_of_neg (by simp [hv]), List.filter_nil, List.filter_append, List.filter_cons_of_pos (by simp [hq]), List.filter_nil, List.getLast?_concat]
  · rw [List.filter_cons_of_pos (by simp [hv, hq])]
noncomputable def BestInv (l : List RI) (a : Int × Value × Bool) : Prop :=
  (a = (-1, .bool true, true) ∧ ∀ q ∈ l, q.r = -1) ∨ ∃ M, 0 ≤ M ∧ a.1 = M + 1 ∧ (∃ q ∈ l, q.r = M) ∧ (∀ q ∈ l, q.r ≤ M) ∧ a.2.1 = pickR M l ∧ a.2.2 = sureR M l
theorem mem_snoc {l : List RI} {q z : RI} (h : z ∈ l ++ [q]) : z ∈ l ∨ z = q := by simpa using h
theorem best_new {l : List RI} {q : RI} (hq : 0 ≤ q.r) (h : ∀ z ∈ l, z.r < q.r) : BestInv (l ++ [q]) (q.r + 1, q.v, q.tv) := by
  have hs : sureR q.r l = false := List.any_eq_false.mpr fun z hz => by
    have := h z hz
    simp only [Bool.and_eq_true, decide_eq_true_eq, not_and]
    intro e
    omega
  refine .inr ⟨q.r, hq, rfl, ⟨q, by simp, rfl⟩, fun z hz => ?_, (pick_last hs rfl).symm, ?_⟩
  · rcases mem_snoc hz with hz | rfl
    · exact Int.le_of_lt (h z hz)
    · exact Int.le_refl _
  · rw [sure_snoc, hs]
    simp
theorem best_snoc {l : List RI} {a : Int × Value × Bool} {q : RI} (h : BestInv l a) (hq : -1 ≤ q.r) : BestInv (l ++ [q]) (bestStep a q) := by
  unfold bestStep
  rcases h with ⟨rfl, h1⟩ | ⟨M, h0, h1, ⟨z0, hz0, hz1⟩, h3, h4, h5⟩
  · by_cases c : q.r + 1 = 0
    · rw [if_pos c]
      refine .inl ⟨rfl, fun z hz => ?_⟩
      rcases mem_snoc hz with hz | rfl
      · exact h1 z hz
      · omega
    · rw [if_neg c, if_pos (by show (-1 : Int) < q.r + 1; omega)]
      exact best_new (by omega) fun z hz => by rw [h1 z hz]; omega
  · obtain ⟨a1, a2, a3⟩ := a
    dsimp only at h1 h4 h5 ⊢
    subst h1 h4 h5
    have old : ∀ c : q.r ≤ M, ∀ z ∈ l ++ [q], z.r ≤ M := fun c z hz => by
      rcases mem_snoc hz with hz | rfl
      · exact h3 z hz
      · exact c
    by_cases c : q.r + 1 = 0
    · rw [if_pos c]
      exact .inr ⟨M, h0, rfl, ⟨z0, by simp [hz0], hz1⟩, old (by omega), (pick_ne (by omega)).symm, (sure_ne (by omega)).symm⟩
    rw [if_neg c]
    by_cases c2 : M + 1 < q.r + 1
    · rw [if_pos c2]
      exact best_new (by omega) fun z hz => by have := h3 z hz; omega
    rw [if_neg c2]
    by_cases c3 : q.r = M
    · cases hs : sureR M l
      · rw [if_pos ⟨by omega, rfl⟩]
        exact .inr ⟨M, h0, rfl, ⟨q, by simp, c3⟩, old (by omega), (pick_last hs c3).symm, by rw [sure_snoc, hs]; simp [c3]⟩
      · rw [if_neg (by simp)]
        exact .inr ⟨M, h0, rfl, ⟨z0, by simp [hz0], hz1⟩, old (by omega), (pick_first hs).symm, by rw [sure_snoc, hs]; rfl⟩
    · rw [if_neg (by omega)]
      exact .inr ⟨M, h0, rfl, ⟨z0, by simp [hz0], hz1⟩, old (by omega), (pick_ne c3).symm, (sure_ne c3).symm⟩
theorem best_inv : ∀ (rs l : List RI) (a : Int × Value × Bool), BestInv l a → (∀ q ∈ rs, -1 ≤ q.r) → BestInv (l ++ rs) (rs.foldl bestStep a)
  | [], l, a, h, _ => by simpa using h
  | q :: rs, l, a, h, k => by
    have := best_inv rs (l ++ [q]) (bestStep a q) (best_snoc h (k q (.head _))) fun z hz => k z (.tail _ hz)
    rw [List.append_assoc] at this
    exact this
theorem due_law {rs : List RI} {v : Value} (h : DueVal (rs.map fun q => (q.v, q.tv, q.r)) v) (hr : ∀ q ∈ rs, -1 ≤ q.r) : v = (bestOf rs).2.1 := by
  obtain ⟨M, hm, hle, rfl⟩ := h
  rw [List.map_map] at hm hle
  obtain ⟨z, hz, hzM⟩ := List.mem_map.mp hm
  have hzM : z.r = M := hzM
  have hle : ∀ q ∈ rs, q.r ≤ M := fun q hq => hle _ (List.mem_map.mpr ⟨q, hq, rfl⟩)
  have inv := best_inv rs [] (-1, .bool true, true) (.inl ⟨rfl, fun q hq => nomatch hq⟩) hr
  rw [List.nil_append] at inv
  unfold dueV
  rcases inv with ⟨e, h1⟩ | ⟨M', h0, h1, ⟨q, hq, hqM⟩, h3, h4, h5⟩
  · rw [if_pos (by have := h1 z hz; omega)]
    show _ = (rs.foldl bestStep (-1, .bool true, true)).2.1
    rw [e]
  · have e : M' = M := by
      have := h3 z hz
      have := hle q hq
      omega
    subst e
    rw [if_neg (by omega)]
    show _ = (rs.foldl bestStep (-1, .bool true, true)).2.1
    rw [h4]
    unfold pickR
    rw [List.filter_map, List.filter_map]
    have e1 : ((fun e : Value × Bool × Int => decide (e.2.2 = M') && e.2.1) ∘ fun q : RI => (q.v, q.tv, q.r)) = fun q => decide (q.r = M') && q.tv := rfl
    have e2 : ((fun e : Value × Bool × Int => decide (e.2.2 = M')) ∘ fun q : RI => (q.v, q.tv, q.r)) = fun q => decide (q.r = M') := rfl
    rw [e1, e2]
    cases rs.filter (fun q => decide (q.r = M') && q.tv) with
    | cons a r => rfl
    | nil =>
      simp only [List.map_nil, List.getLast?_map]
      cases (rs.filter fun q => decide (q.r = M')).getLast? <;> rfl
end Lw
end
example : True := by k_with_none; w_top off; trivial
section
open PySem PySem.W PyProof.Rows
namespace Lw
example : True := by
  k_with_none
  k_with "omega" => ((fail_if_success (fail_if_success (omega (config := {})))); first | lia | omega (config := {}))
  trivial
noncomputable def pathF (qs : List Int) (j : Nat) : Str := textF (Str.ofString "ab*.*()?") ((qs.drop (5 * j)).take 5)
theorem path_len {qs : List Int} {j : Nat} : (pathF qs j).length ≤ 5 := Nat.le_trans text_len (by rw [List.length_take]; exact Nat.min_le_left _ _)
theorem path_six {qs : List Int} {j : Nat} : ∀ c ∈ (pathF qs j).cps.toList, c ∈ six ∨ c = 42 := path_signs
theorem cells_five {qs : List Int} {i : Nat} (hq : qs.length = 32) (hi : i < 5) : List.take (min (5 * (0 + (i : Int)) + 5).toNat qs.length - (5 * (0 + (i : Int))).toNat) (List.drop (5 * (0 + (i : Int))).toNat qs) = (qs.drop (5 * i)).take 5 := by
  rw [show (5 * (0 + (i : Int))).toNat = 5 * i by omega, show (5 * (0 + (i : Int)) + 5).toNat = 5 * i + 5 by omega, Nat.min_eq_left (by omega), Nat.add_sub_cancel_left]
theorem TabA.mem104 {tb : List (Addr × Obj)} (h : TabA tb) : ∃ o, (104, o) ∈ tb := by
  rcases h with rfl | ⟨c, oc, vs, t, rfl, _⟩
  · exact ⟨_, .head _⟩
  · exact ⟨_, .tail _ (.head _)⟩
theorem TabA.fieldsAll {tb : List (Addr × Obj)} (h : TabA tb) : ∀ p ∈ tb, ∃ vs, p.2.data = .fields vs := fun p hp => by
  rcases h with rfl | ⟨c, oc, vs, t, rfl, hd, _⟩
  · rw [List.mem_singleton.mp hp]; exact ⟨_, rfl⟩
  · rcases List.mem_cons.mp hp with rfl | hp
    · exact ⟨_, hd⟩
    · rw [List.mem_singleton.mp hp]; exact ⟨_, rfl⟩
theorem tab_off {g h : Heap} {L I C D : Addr} {oI oC : Obj} {m₂ : Str → Option Value} {ys : List Value} {tb l : List (Addr × Obj)} (ht : TabA tb) (N : News g L h l) (hs : ∀ p ∈ tb, p ∈ l) (hI : (I, oI) ∈ l) (hC : (C, oC) ∈ l) (hD : (D, LCg.lst ys) ∈ l) (hio : ListIt oI) (hCo : LCg.NsObj oC m₂) (n1 : @Ne Nat I 104) :
    ∀ p ∈ tb, p.1 ≠ I ∧ p.1 ≠ C ∧ p.1 ≠ D := fun p hp => by
  obtain ⟨vs, hv⟩ := ht.fieldsAll p hp
  refine ⟨?_, apart_obj N (o := p.2) (hs p hp) hC fun e => ?_, apart_obj N (o := p.2) (hs p hp) hD fun e => ?_⟩
  · rcases ht with rfl | ⟨c, oc, ws, t, rfl, hd2, hv2⟩
    · rw [List.mem_singleton.mp hp]; exact Ne.symm n1
    · rcases List.mem_cons.mp hp with rfl | hp'
      · refine apart_obj N (hs _ hp) hI fun e => ?_
        obtain ⟨_, a, k, h2⟩ := hio
        rw [← e, hd2] at h2
        cases h2
        simp at hv2
      · rw [List.mem_singleton.mp hp']; exact Ne.symm n1
  · obtain ⟨es, ep, h2, _⟩ := hCo
    rw [← e, hv] at h2
    cases h2
  · rw [e] at hv
    cases hv
theorem str_item {ls : List (Str × Tok)} {i : Nat} {v : Value} (h : (strValues ls).toArray[i]? = some v) : ∃ q, ls[i]? = some q ∧ v = .str q.1 q.2 := by
  have h : (strValues ls)[i]? = some v := by simpa using h
  unfold strValues at h
  rw [List.getElem?_map, Option.map_eq_some_iff] at h
  obtain ⟨q, h1, h2⟩ := h
  exact ⟨q, h1, h2.symm⟩
theorem path_item {α β : Type} {ls : List α} {g : α → β} {f : Nat → β} {n i : Nat} {q : α} (h : ls.map g = (List.range n).map f) (hi : ls[i]? = some q) : g q = f i := by
  have e : (ls.map g)[i]? = some (g q) := by rw [List.getElem?_map, hi]; rfl
  rw [h, List.getElem?_map] at e
  cases c : (List.range n)[i]? with
  | none => rw [c] at e; cases e
  | some k =>
    rw [c] at e
    have hk : k = i := by
      obtain ⟨h1, h2⟩ := List.getElem?_eq_some_iff.mp c
      simpa using h2.symm
    subst hk
    exact (Option.some.inj e).symm
theorem esc_len (l : List Nat) : (escL l).length ≤ 2 * l.length := by
  induction l with
  | nil => exact Nat.le_refl _
  | cons c r ih =>
    unfold escL at ih ⊢
    rw [List.flatMap_cons, List.length_append, List.length_cons]
    have : (esc1 c).length ≤ 2 := by unfold esc1; split <;> simp
    omega
theorem tail_len {b : Nat} : ∀ {ps : List (List Nat)}, (∀ p ∈ ps, p.length ≤ b) → (tailL ps).length ≤ ps.length * (b + 7)
  | [], _ => by simp [tailL]
  | [q], h => by
    have := h q (.head _)
    simp [tailL]
    omega
  | q :: q' :: r, h => by
    have h1 := h q (.head _)
    have h2 := tail_len (ps := q' :: r) fun p hp => h p (.tail _ hp)
    simp only [tailL, List.length_append, List.length_cons, List.length_nil] at h2 ⊢
    rw [Nat.succ_mul]
    omega
theorem pat_len {b : Nat} {ps : List (List Nat)} (h : ∀ p ∈ ps, p.length ≤ b) : (patL ps).length ≤ ps.length * (b + 7) := by
  match ps, h with
  | [], _ => simp [patL]
  | [p], h =>
    have := h p (.head _)
    simp [patL]
    omega
  | p :: q :: r, h =>
    have h1 := h p (.head _)
    have h2 := tail_len (ps := q :: r) fun z hz => h z (.tail _ hz)
    simp only [patL, List.length_append, List.length_cons] at h2 ⊢
    rw [Nat.succ_mul]
    omega
theorem split_count : ∀ l : List Nat, (splitL l).length ≤ l.length + 1
  | [] => Nat.le_refl _
  | c :: r => by
    have h := split_count r
    unfold splitL
    split
    · simp; omega
    · split
      · simp
      · rename_i e; rw [e] at h; simp at h ⊢; omega
theorem trans_len {P : Params} {x : Str} (hx : x.length ≤ 5) (h : ∀ c ∈ x.cps.toList, c ∈ six ∨ c = 42) : (transF P x).length ≤ 800 := by
  have hl : x.cps.toList.length = x.length := by simp [Str.length]
  have e : (transF P x).length = (transF P x).cps.toList.length := by simp [Str.length]
  rw [e, trans_list h]
  have h1 := pat_len (b := 10) (ps := (splitL x.cps.toList).map escL) fun p hp => by
    obtain ⟨q, hq, rfl⟩ := List.mem_map.mp hp
    have := splitL_short _ q hq
    have := esc_len q
    omega
  have h2 := split_count x.cps.toList
  rw [List.length_map] at h1
  have h3 : (splitL x.cps.toList).length * (10 + 7) ≤ 6 * 17 := Nat.mul_le_mul (by omega) (Nat.le_refl _)
  omega
set_option genInjectivity false in
set_option genSizeOf false in
structure PcI where
  a : Addr
  c : Nat
  ls : List (Str × Tok)
noncomputable abbrev PcI.ent (p : PcI) : Addr × Obj := (p.a, { cls := .type "list", data := .seq (strValues p.ls).toArray p.c })
set_option genInjectivity false in
set_option genSizeOf false in
structure PcX where
  tb : List (Addr × Obj)
  xs : List PcI
noncomputable def rowF (qs : List Int) (j : Nat) : List Str := rawF (wholeF (pathF qs j))
noncomputable def PcsOk (qs : List Int) (i : Nat) (d : PcX) : Prop := TabA d.tb ∧ (∀ p ∈ d.xs, p.a ≠ 104) ∧ d.xs.map (fun p => p.ls.map (·.1)) = (List.range i).map (rowF qs)
section
variable {g h : Heap} {L I C D : Addr} {oI oC : Obj} {m₂ : Str → Option Value} {ys : List Value} {qs : List Int} {i : Nat} {d : PcX} {R tb' : List (Addr × Obj)} {p : PcI}
theorem pcs_104 (hok : PcsOk qs i d) (off : LCg.Off3 I C D (d.tb ++ (d.xs.map PcI.ent ++ R))) (hR : ∀ p ∈ R, p.1 ≠ 104) : ∀ p ∈ (I, oI) :: (C, oC) :: (D, LCg.lst ys) :: (d.xs.map PcI.ent ++ R), p.1 ≠ 104 := fun p hp => by
  obtain ⟨o, ho⟩ := hok.1.mem104
  have h := off.mem _ (List.mem_append_left _ ho)
  rcases List.mem_cons.mp hp with rfl | hp
  · exact Ne.symm h.1
  rcases List.mem_cons.mp hp with rfl | hp
  · exact Ne.symm h.2.1
  rcases List.mem_cons.mp hp with rfl | hp
  · exact Ne.symm h.2.2
  rcases List.mem_append.mp hp with hp | hp
  · obtain ⟨q, hq, rfl⟩ := List.mem_map.mp hp
    exact hok.2.1 q hq
  · exact hR p hp
theorem pcs_next (hok : PcsOk qs i d) (ht : TabA tb') (h1 : p.ls.map (·.1) = rowF qs i) (h2 : p.a ≠ 104) : PcsOk qs (i + 1) ⟨tb', d.xs ++ [p]⟩ := by
  refine ⟨ht, fun q hq => ?_, ?_⟩
  · rcases List.mem_append.mp hq with hq | hq
    · exact hok.2.1 q hq
    · rw [List.mem_singleton.mp hq]; exact h2
  · show (d.xs ++ [p]).map _ = _
    rw [List.map_append, hok.2.2, List.range_succ, List.map_append, List.map_cons, List.map_nil, h1]
    rfl
theorem pcs_in {a b c : Addr × Obj} {tb l : List (Addr × Obj)} (N : News g L h ([] ++ a :: b :: c :: (tb ++ l))) : News g L h (tb ++ (a :: b :: c :: l)) := rul_in N
theorem pcs_out {a b c : Addr × Obj} (N : News g L h (p.ent :: (tb' ++ (a :: b :: c :: (d.xs.map PcI.ent ++ R))))) : News g L h (a :: b :: c :: (tb' ++ ((d.xs ++ [p]).map PcI.ent ++ R))) := KStt.news_of N fun q hq => by
  simp only [List.mem_cons, List.mem_append, List.map_append, List.map_cons, List.map_nil, List.not_mem_nil, or_false] at hq ⊢
  rcases hq with hq | hq | hq | hq | (hq | hq) | hq
  · exact .inr (.inr (.inl hq))
  · exact .inr (.inr (.inr (.inl hq)))
  · exact .inr (.inr (.inr (.inr (.inl hq))))
  · exact .inr (.inl hq)
  · exact .inr (.inr (.inr (.inr (.inr (.inl hq)))))
  · exact .inl hq
  · exact .inr (.inr (.inr (.inr (.inr (.inr hq)))))
theorem pcs_off (N : News g L h (p.ent :: (tb' ++ ((I, oI) :: (C, oC) :: (D, LCg.lst ys) :: (d.xs.map PcI.ent ++ R))))) (ht : TabA tb') (hio : ListIt oI) (hCo : LCg.NsObj oC m₂) (off : LCg.Off3 I C D (d.tb ++ (d.xs.map PcI.ent ++ R))) (h104 : @Ne Nat I 104)
    (hp : ∀ q ∈ tb' ++ ((I, oI) :: (C, oC) :: (D, LCg.lst ys) :: (d.xs.map PcI.ent ++ R)), q.1 ≠ p.a) : LCg.Off3 I C D (tb' ++ ((d.xs ++ [p]).map PcI.ent ++ R)) := LCg.Off3.of fun q hq => by
  have hm := off.mem
  have hI : (I, oI) ∈ tb' ++ ((I, oI) :: (C, oC) :: (D, LCg.lst ys) :: (d.xs.map PcI.ent ++ R)) := List.mem_append_right _ (.head _)
  have hC : (C, oC) ∈ tb' ++ ((I, oI) :: (C, oC) :: (D, LCg.lst ys) :: (d.xs.map PcI.ent ++ R)) := List.mem_append_right _ (.tail _ (.head _))
  have hD : (D, LCg.lst ys) ∈ tb' ++ ((I, oI) :: (C, oC) :: (D, LCg.lst ys) :: (d.xs.map PcI.ent ++ R)) := List.mem_append_right _ (.tail _ (.tail _ (.head _)))
  rcases List.mem_append.mp hq with hq | hq
  · exact tab_off ht N (fun p hp => .tail _ (List.mem_append_left _ hp)) (.tail _ hI) (.tail _ hC) (.tail _ hD) hio hCo h104 q hq
  rcases List.mem_append.mp hq with hq | hq
  · rw [List.map_append] at hq
    rcases List.mem_append.mp hq with hq | hq
    · exact hm q (List.mem_append_right _ (List.mem_append_left _ hq))
    · rw [List.map_cons, List.map_nil] at hq
      rw [List.mem_singleton.mp hq]
      exact ⟨Ne.symm (hp _ hI), Ne.symm (hp _ hC), Ne.symm (hp _ hD)⟩
  · exact hm q (List.mem_append_right _ (List.mem_append_right _ hq))
end
section
variable {g h : Heap} {L Dr c4 : Addr} {ys : List Value} {tb : List (Addr × Obj)} {xs : List PcI} {a b c e f : Addr × Obj} {o4 o5 : Obj}
noncomputable abbrev pcsR (Dr : Addr) (ys : List Value) (xs : List PcI) (a b c e f : Addr × Obj) : List (Addr × Obj) := (Dr, LCg.lst ys) :: (xs.map PcI.ent ++ [a, b, c, e, f])
theorem pcs_done (N : News g L h ((Dr, LCg.lst ys) :: (tb ++ (xs.map PcI.ent ++ [a, b, c, (c4, o4), e, f, (156, o5)])))) : News g L h ((c4, o4) :: (156, o5) :: (tb ++ pcsR Dr ys xs a b c e f)) := KStt.news_of N fun p hp => by
  simp only [pcsR, List.mem_cons, List.mem_append, List.not_mem_nil, or_false] at hp ⊢
  grind
theorem pcs_far {k : Addr} {ok : Obj} {l : List (Addr × Obj)} (N : News g L h l) (hs : ∀ p ∈ tb ++ pcsR Dr ys xs a b c e f, p ∈ l) (hk : (k, ok) ∈ l) (hn : ∀ vs n, ok.data ≠ .seq vs n) (ht : ∀ p ∈ tb, p.1 ≠ k) (h1 : a.1 ≠ k) (h2 : b.1 ≠ k) (h3 : c.1 ≠ k) (h4 : e.1 ≠ k) (h5 : f.1 ≠ k) : ∀ p ∈ tb ++ pcsR Dr ys xs a b c e f, p.1 ≠ k := fun p hp => by
  have hq := hs p hp
  rcases List.mem_append.mp hp with hp | hp
  · exact ht p hp
  rcases List.mem_cons.mp hp with rfl | hp
  · exact apart_obj N hq hk fun e => hn _ _ (by rw [← e])
  rcases List.mem_append.mp hp with hp | hp
  · obtain ⟨q, _, rfl⟩ := List.mem_map.mp hp
    exact apart_obj N hq hk fun e => hn _ _ (by rw [← e])
  · simp only [List.mem_cons, List.not_mem_nil, or_false] at hp
    rcases hp with rfl | rfl | rfl | rfl | rfl
    · exact h1
    · exact h2
    · exact h3
    · exact h4
    · exact h5
end
theorem TabA.far156 {g h : Heap} {L : Addr} {tb l : List (Addr × Obj)} (ht : TabA tb) (N : News g L h l) (hs : ∀ p ∈ tb, p ∈ l) (hk : (156, tabObj #[]) ∈ l) : ∀ p ∈ tb, p.1 ≠ 156 := fun p hp => by
  have hq := hs p hp
  rcases ht with rfl | ⟨c, oc, vs, t, rfl, hd, hv⟩
  · rw [List.mem_singleton.mp hp]; decide
  · rcases List.mem_cons.mp hp with rfl | hp
    · refine apart_obj N hq hk fun e => ?_
      rw [e] at hd
      cases hd
      simp at hv
    · rw [List.mem_singleton.mp hp]; exact (by decide : (104 : Nat) ≠ 156)
noncomputable abbrev nwT2 {g h : Heap} {L : Addr} {a b : Addr × Obj} {tb R : List (Addr × Obj)} (_ : News g L h (a :: b :: (tb ++ R))) : List (Addr × Obj) := R
theorem pcs_mem {g h : Heap} {L Dr : Addr} {ys : List Value} {tb R3 : List (Addr × Obj)} {xs : List PcI} {k4 k6 a b c e f : Addr × Obj} (N : News g L h (k4 :: k6 :: (tb ++ pcsR Dr ys xs a b c e f))) (hR : R3 = nwT2 N) :
    (Dr, LCg.lst ys) ∈ R3 ∧ (∀ p ∈ xs, p.ent ∈ R3) ∧ a ∈ R3 ∧ b ∈ R3 ∧ c ∈ R3 ∧ e ∈ R3 ∧ f ∈ R3 ∧ News g L h (k4 :: k6 :: (tb ++ R3)) := by
  subst hR
  refine ⟨.head _, fun p hp => .tail _ (List.mem_append_left _ (List.mem_map.mpr ⟨p, hp, rfl⟩)), ?_, ?_, ?_, ?_, ?_, N⟩ <;> exact .tail _ (List.mem_append_right _ (by simp))
theorem pcs_farR {g h : Heap} {L k : Addr} {tb R R3 : List (Addr × Obj)} {k4 k6 : Addr × Obj} {N : News g L h (k4 :: k6 :: (tb ++ R))} (hR : R3 = nwT2 N) (f : ∀ p ∈ tb ++ R, p.1 ≠ k) : ∀ p ∈ tb ++ R3, p.1 ≠ k := by
  subst hR
  exact f
theorem bools_no : ∀ n : Nat, LSm.BoolsAre (List.replicate n (.bool false)) (List.replicate n false)
  | 0 => .nil
  | n + 1 => .cons _ (bools_no n)
theorem any_no : ∀ {n : Nat}, (List.replicate n false).any id = false
  | 0 => rfl
  | n + 1 => by rw [List.replicate_succ, List.any_cons, any_no]; rfl
section
variable {g h : Heap} {L Dr : Addr} {ys : List Value} {tb R R3 : List (Addr × Obj)} {xs : List PcI} {a b c d e f k : Addr × Obj} {k4 k6 : Addr × Obj} {o : Obj}
theorem pcs_no104 {N : News g L h (k4 :: k6 :: (tb ++ pcsR Dr ys xs a b c e f))} (hR3 : R3 = nwT2 N) (h4 : ∀ p ∈ [a, b, c, d, e, f, k], p.1 ≠ 104) (hx : ∀ p ∈ xs, p.a ≠ 104) (hD : Dr ≠ 104) : ∀ p ∈ R3, p.1 ≠ 104 := fun p hp => by
  subst hR3
  rcases List.mem_cons.mp hp with rfl | hp
  · exact hD
  rcases List.mem_append.mp hp with hp | hp
  · obtain ⟨q, hq, rfl⟩ := List.mem_map.mp hp
    exact hx q hq
  · simp only [List.mem_cons, List.not_mem_nil, or_false] at hp h4
    exact h4 p (by rcases hp with rfl | rfl | rfl | rfl | rfl <;> simp)
theorem vd_pack (N : News g L h (a :: b :: c :: d :: e :: f :: (156, o) :: (tb ++ R))) : News g L h ((156, o) :: (tb ++ (a :: b :: c :: d :: e :: f :: R))) := KStt.news_of N fun p hp => by
  simp only [List.mem_cons, List.mem_append] at hp ⊢
  grind
theorem vd_far {l : List (Addr × Obj)} {n : Addr} (h1 : a.1 ≠ n) (h2 : b.1 ≠ n) (h3 : c.1 ≠ n) (h4 : d.1 ≠ n) (h5 : e.1 ≠ n) (h6 : f.1 ≠ n) (hR : ∀ p ∈ R, p.1 ≠ n) (hl : l = a :: b :: c :: d :: e :: f :: R) : ∀ p ∈ l, p.1 ≠ n := fun p hp => by
  subst hl
  simp only [List.mem_cons] at hp
  rcases hp with rfl | rfl | rfl | rfl | rfl | rfl | hp
  · exact h1
  · exact h2
  · exact h3
  · exact h4
  · exact h5
  · exact h6
  · exact hR p hp
noncomputable abbrev nwT1 {g h : Heap} {L : Addr} {a : Addr × Obj} {tb R : List (Addr × Obj)} (_ : News g L h (a :: (tb ++ R))) : List (Addr × Obj) := R
theorem vd_mem {R4 : List (Addr × Obj)} (N : News g L h (k :: (tb ++ (a :: b :: c :: d :: e :: f :: R)))) (hR : R4 = nwT1 N) : a ∈ R4 ∧ b ∈ R4 ∧ c ∈ R4 ∧ d ∈ R4 ∧ e ∈ R4 ∧ f ∈ R4 ∧ (∀ p ∈ R, p ∈ R4) ∧ News g L h (k :: (tb ++ R4)) := by
  subst hR
  refine ⟨.head _, .tail _ (.head _), .tail _ (.tail _ (.head _)), .tail _ (.tail _ (.tail _ (.head _))), .tail _ (.tail _ (.tail _ (.tail _ (.head _)))), .tail _ (.tail _ (.tail _ (.tail _ (.tail _ (.head _))))), fun p hp => .tail _ (.tail _ (.tail _ (.tail _ (.tail _ (.tail _ hp))))), N⟩
end
noncomputable def VdIs (fs : List Value) (k : Nat) (v : Value) : Prop := (∃ t, v = .int (10 + (k : Int)) t) ∨ fs[k]? = some v
noncomputable def VdOk (fs : List Value) (i : Nat) (vs : List Value) : Prop := vs.length = i ∧ ∀ (k : Nat) (v : Value), vs[k]? = some v → VdIs fs k v
theorem vd_next {fs vs : List Value} {i : Nat} {v : Value} (h : VdOk fs i vs) (hv : VdIs fs i v) : VdOk fs (i + 1) (vs ++ [v]) := by
  refine ⟨by simp [h.1], fun k z hz => ?_⟩
  by_cases c : k < i
  · rw [List.getElem?_append_left (by rw [h.1]; exact c)] at hz
    exact h.2 k z hz
  · have hk : k = i := by
      have := (List.getElem?_eq_some_iff.mp hz).1
      simp [h.1] at this
      omega
    subst hk
    rw [List.getElem?_append_right (by rw [h.1]; omega), h.1] at hz
    simp at hz
    subst hz
    exact hv
end Lw
end
example : True := by k_with_none; w_top off; trivial
section
open PySem PySem.W PyProof.Rows
namespace Lw
noncomputable abbrev RowI.ent (r : RowI) : Addr × Obj := (r.a, r.obj)
noncomputable def rowN (nl : List (Str × Tok)) (qs : List Int) (j : Nat) : List Int := nl.map fun q => farF q.1 (pathF qs j)
noncomputable def RwsOk (nl : List (Str × Tok)) (qs : List Int) (i : Nat) (d : List RowI) : Prop := (∀ r ∈ d, IntsAre r.vs r.ns) ∧ d.map RowI.ns = (List.range i).map (rowN nl qs)
theorem ints_app {a b : List Value} {x y : List Int} (h : IntsAre a x) (k : IntsAre b y) : IntsAre (a ++ b) (x ++ y) := by
  induction h with
  | nil => exact k
  | cons n t _ ih => exact .cons _ _ ih
theorem ints_next {α : Type} {f : α → Int} {l : List α} {i : Nat} {q : α} {d : List Value} {r : Int} {t : Tok} (h : IntsAre d ((l.take i).map f)) (hq : l[i]? = some q) (hr : r = f q) : IntsAre (d ++ [.int r t]) ((l.take (i + 1)).map f) := by
  rw [List.take_add_one, hq, Option.toList_some, List.map_append, List.map_cons, List.map_nil, ← hr]
  exact ints_app h (.cons _ _ .nil)
theorem rws_next {nl : List (Str × Tok)} {qs : List Int} {i : Nat} {d : List RowI} {r : RowI} (h : RwsOk nl qs i d) (h1 : IntsAre r.vs r.ns) (h2 : r.ns = rowN nl qs i) : RwsOk nl qs (i + 1) (d ++ [r]) := by
  refine ⟨fun z hz => ?_, ?_⟩
  · rcases List.mem_append.mp hz with hz | hz
    · exact h.1 z hz
    · rw [List.mem_singleton.mp hz]; exact h1
  · rw [List.map_append, h.2, List.range_succ, List.map_append, List.map_cons, List.map_nil, h2]
    rfl
section
variable {g h : Heap} {L I C D K : Addr} {oI oC oK : Obj} {ys : List Value} {d : List RowI} {R : List (Addr × Obj)} {r : RowI}
theorem rws_out {a b c e : Addr × Obj} (N : News g L h (r.ent :: a :: b :: c :: e :: (d.map RowI.ent ++ R))) : News g L h (a :: b :: c :: e :: ((d ++ [r]).map RowI.ent ++ R)) := KStt.news_of N fun q hq => by
  simp only [List.mem_cons, List.mem_append, List.map_append, List.map_cons, List.map_nil, List.not_mem_nil, or_false] at hq ⊢
  grind
theorem rws_off (o : LCg.Off1 r.a ((I, oI) :: (C, oC) :: (D, LCg.lst ys) :: (K, oK) :: (d.map RowI.ent ++ R))) (off : LCg.Off3 I C D ((K, oK) :: (d.map RowI.ent ++ R))) (offK : ∀ p ∈ d.map RowI.ent ++ R, p.1 ≠ K) :
    LCg.Off3 I C D ((K, oK) :: ((d ++ [r]).map RowI.ent ++ R)) ∧ ∀ p ∈ (d ++ [r]).map RowI.ent ++ R, p.1 ≠ K := by
  have o' := off1_mem o
  have hm := off.mem
  have hr : r.a ≠ I ∧ r.a ≠ C ∧ r.a ≠ D ∧ r.a ≠ K := ⟨Ne.symm (o' _ (.head _)), Ne.symm (o' _ (.tail _ (.head _))), Ne.symm (o' _ (.tail _ (.tail _ (.head _)))), Ne.symm (o' _ (.tail _ (.tail _ (.tail _ (.head _)))))⟩
  refine ⟨LCg.Off3.of fun p hp => ?_, fun p hp => ?_⟩
  · rcases List.mem_cons.mp hp with rfl | hp
    · exact hm _ (.head _)
    rcases List.mem_append.mp hp with hp | hp
    · rw [List.map_append] at hp
      rcases List.mem_append.mp hp with hp | hp
      · exact hm p (.tail _ (List.mem_append_left _ hp))
      · rw [List.map_cons, List.map_nil] at hp
        rw [List.mem_singleton.mp hp]
        exact ⟨hr.1, hr.2.1, hr.2.2.1⟩
    · exact hm p (.tail _ (List.mem_append_right _ hp))
  · rcases List.mem_append.mp hp with hp | hp
    · rw [List.map_append] at hp
      rcases List.mem_append.mp hp with hp | hp
      · exact offK p (List.mem_append_left _ hp)
      · rw [List.map_cons, List.map_nil] at hp
        rw [List.mem_singleton.mp hp]
        exact hr.2.2.2
    · exact offK p (List.mem_append_right _ hp)
end
noncomputable abbrev nwNames {a : Addr} {x y z : Str} {t u v : Tok} {l : List (Addr × Obj)} (_ : (a, W.listOf #[.str x t, .str y u, .str z v] 0) ∈ l) : List (Str × Tok) := [(x, t), (y, u), (z, v)]
theorem names_mem {a : Addr} {x y z : Str} {t u v : Tok} {l : List (Addr × Obj)} (h : (a, W.listOf #[.str x t, .str y u, .str z v] 0) ∈ l) {nl : List (Str × Tok)} (hn : nl = nwNames h) (h1 : x.length ≤ 9) (h2 : y.length ≤ 9) (h3 : z.length ≤ 9) :
    (a, ({ cls := .type "list", data := .seq (strValues nl).toArray 0 } : Obj)) ∈ l ∧ nl.length = 3 ∧ ∀ q ∈ nl, q.1.length ≤ 9 := by
  subst hn
  refine ⟨h, rfl, fun q hq => ?_⟩
  have hq : q ∈ [(x, t), (y, u), (z, v)] := hq
  simp only [List.mem_cons, List.not_mem_nil, or_false] at hq
  rcases hq with rfl | rfl | rfl <;> assumption
end Lw
end
example : True := by k_with_none; w_top off; trivial
section
open PySem PySem.W PyProof.Rows
namespace Lw
example : True := by
  k_with_none
  k_with "omega" => ((fail_if_success (fail_if_success (omega (config := {})))); first | lia | omega (config := {}))
  trivial
theorem whole_cps (x : Str) : (wholeF x).cps.toList = if (42 : Nat) ∈ x.cps.toList then x.cps.toList else 42 :: x.cps.toList := by
  unfold wholeF
  split
  · rfl
  · rw [app_cps]
    have e : (Str.ofString "*").cps.toList = [42] := by decide +kernel
    rw [e]
    rfl
theorem whole_len {x : Str} (h : x.length ≤ 5) : (wholeF x).length ≤ 6 := by
  have e1 : (wholeF x).length = (wholeF x).cps.toList.length := by simp [Str.length]
  have e2 : x.length = x.cps.toList.length := by simp [Str.length]
  rw [e1, whole_cps]
  split
  · omega
  · rw [List.length_cons]; omega
theorem whole_mem {x : Str} : (42 : Nat) ∈ (wholeF x).cps.toList := by
  rw [whole_cps]
  split
  · assumption
  · exact .head _
theorem whole_six {x : Str} (h : ∀ c ∈ x.cps.toList, c ∈ six ∨ c = 42) : ∀ c ∈ (wholeF x).cps.toList, c ∈ six ∨ c = 42 := fun c hc => by
  rw [whole_cps] at hc
  split at hc
  · exact h c hc
  · rcases List.mem_cons.mp hc with rfl | hc
    · exact .inr rfl
    · exact h c hc
theorem split_two : ∀ {l : List Nat}, (42 : Nat) ∈ l → 2 ≤ (splitL l).length
  | c :: r, h => by
    unfold splitL
    split
    · have := splitL_ne r
      have : 0 < (splitL r).length := List.length_pos_iff.mpr this
      simp; omega
    · rename_i hc
      have hr : (42 : Nat) ∈ r := by
        rcases List.mem_cons.mp h with e | e
        · exact absurd e.symm hc
        · exact e
      have ih := split_two hr
      split
      · rename_i e; rw [e] at ih; simp at ih
      · rename_i e; rw [e] at ih; simpa using ih
theorem two_ends {α : Type} {l : List α} (h : 2 ≤ l.length) : ∃ a m b, l = a :: (m ++ [b]) := by
  match l, h with
  | a :: r, h =>
    have hr : r ≠ [] := by intro e; subst e; simp at h
    exact ⟨a, r.dropLast, r.getLast hr, by rw [List.dropLast_concat_getLast]⟩
theorem row_shape {qs : List Int} {j : Nat} {ls : List (Str × Tok)} (h : ls.map (·.1) = rowF qs j) : ∃ q0 mid ql, ls = q0 :: (mid ++ [ql]) ∧ mid.length ≤ 18 ∧ q0.1.length ≤ 100 ∧ ql.1.length ≤ 100 ∧ (∀ q ∈ mid, q.1.length ≤ 100) ∧ reprText ql.1 = Str.ofString "'" ++ ql.1 ++ Str.ofString "'" ∧ ∀ q ∈ mid, reprText q.1 = Str.ofString "'" ++ q.1 ++ Str.ofString "'" := by
  have hw := whole_len (path_len (qs := qs) (j := j))
  have hwl : (wholeF (pathF qs j)).cps.toList.length = (wholeF (pathF qs j)).length := by simp [Str.length]
  have hlen : ls.length = (splitL (wholeF (pathF qs j)).cps.toList).length := by
    have := congrArg List.length h
    unfold rowF rawF at this
    simpa using this
  have h2 := split_two (whole_mem (x := pathF qs j))
  have h3 := split_count (wholeF (pathF qs j)).cps.toList
  have hp : ∀ q ∈ ls, q.1.length ≤ 100 ∧ reprText q.1 = Str.ofString "'" ++ q.1 ++ Str.ofString "'" := fun q hq => by
    have hm : q.1 ∈ rowF qs j := h ▸ List.mem_map.mpr ⟨q, hq, rfl⟩
    refine ⟨Nat.le_trans (raw_short hm) (by omega), repr_signs fun c hc => ?_⟩
    unfold rowF rawF at hm
    obtain ⟨p, hp, e⟩ := List.mem_map.mp hm
    rw [← e, ofL_cps] at hc
    exact whole_six path_six c (splitL_sub _ p hp c hc)
  obtain ⟨q0, mid, ql, rfl⟩ := two_ends (l := ls) (by omega)
  refine ⟨q0, mid, ql, rfl, by simp at hlen; omega, (hp _ (.head _)).1, (hp ql (by simp)).1, fun q hq => (hp q (by simp [hq])).1, (hp ql (by simp)).2, fun q hq => (hp q (by simp [hq])).2⟩
theorem far104 {I C D : Addr} {oI oC oD : Obj} {tb T : List (Addr × Obj)} (ht : TabA tb) (off : LCg.Off3 I C D (tb ++ T)) (h : ∀ p ∈ T, p.1 ≠ 104) : ∀ p ∈ (I, oI) :: (C, oC) :: (D, oD) :: T, p.1 ≠ 104 := fun p hp => by
  obtain ⟨o, ho⟩ := ht.mem104
  have q := off.mem _ (List.mem_append_left _ ho)
  rcases List.mem_cons.mp hp with rfl | hp
  · exact Ne.symm q.1
  rcases List.mem_cons.mp hp with rfl | hp
  · exact Ne.symm q.2.1
  rcases List.mem_cons.mp hp with rfl | hp
  · exact Ne.symm q.2.2
  · exact h p hp
set_option genInjectivity false in
set_option genSizeOf false in
structure RcX where
  tb : List (Addr × Obj)
  rs : List RowI
noncomputable def RcOk (nl : List (Str × Tok)) (qs : List Int) (i : Nat) (d : RcX) : Prop := TabA d.tb ∧ RwsOk nl qs i d.rs ∧ ∀ r ∈ d.rs, r.a ≠ 104
section
variable {g h : Heap} {L I C D K : Addr} {oI oC oD oK : Obj} {ys : List Value} {m₂ : Str → Option Value} {tb tb' T S : List (Addr × Obj)} {rs : List RowI} {r : RowI}
theorem rc_in {a b c e : Addr × Obj} (N : News g L h (a :: b :: c :: e :: (tb ++ S))) : News g L h (tb ++ (a :: b :: c :: e :: S)) := KStt.news_of N fun p hp => by
  simp only [List.mem_cons, List.mem_append] at hp ⊢
  grind
theorem rc_back {a b c : Addr × Obj} (N : News g L h (tb ++ (a :: b :: c :: S))) : News g L h (a :: b :: c :: (tb ++ S)) := KStt.news_of N fun p hp => by
  simp only [List.mem_cons, List.mem_append] at hp ⊢
  grind
theorem rc_104 (ht : TabA tb) (off : LCg.Off3 I C D ((K, oK) :: (tb ++ (rs.map RowI.ent ++ S)))) (offK : ∀ p ∈ tb ++ (rs.map RowI.ent ++ S), p.1 ≠ K) (hr : ∀ r ∈ rs, r.a ≠ 104) (hS : ∀ p ∈ S, p.1 ≠ 104) : ∀ p ∈ (I, oI) :: (C, oC) :: (D, oD) :: (K, oK) :: (rs.map RowI.ent ++ S), p.1 ≠ 104 := fun p hp => by
  obtain ⟨o, ho⟩ := ht.mem104
  have q := off.mem _ (.tail _ (List.mem_append_left _ ho))
  rcases List.mem_cons.mp hp with rfl | hp
  · exact Ne.symm q.1
  rcases List.mem_cons.mp hp with rfl | hp
  · exact Ne.symm q.2.1
  rcases List.mem_cons.mp hp with rfl | hp
  · exact Ne.symm q.2.2
  rcases List.mem_cons.mp hp with rfl | hp
  · exact Ne.symm (offK _ (List.mem_append_left _ ho))
  rcases List.mem_append.mp hp with hp | hp
  · obtain ⟨z, hz, rfl⟩ := List.mem_map.mp hp
    exact hr z hz
  · exact hS p hp
theorem rc_off (N : News g L h ((I, oI) :: (C, oC) :: (D, LCg.lst ys) :: (tb' ++ T))) (ht' : TabA tb') (hio : ListIt oI) (hCo : LCg.NsObj oC m₂) (h104 : @Ne Nat I 104) (off : LCg.Off3 I C D (tb ++ T)) : LCg.Off3 I C D (tb' ++ T) := LCg.Off3.of fun p hp => by
  rcases List.mem_append.mp hp with hp | hp
  · exact tab_off ht' N (fun p hp => .tail _ (.tail _ (.tail _ (List.mem_append_left _ hp)))) (.head _) (.tail _ (.head _)) (.tail _ (.tail _ (.head _))) hio hCo h104 p hp
  · exact off.mem p (List.mem_append_right _ hp)
theorem rc_fin {d : RcX} (N : News g L h (r.ent :: (tb' ++ ((I, oI) :: (C, oC) :: (D, LCg.lst ys) :: (K, oK) :: (d.rs.map RowI.ent ++ S))))) (o : LCg.Off1 r.a (tb' ++ ((I, oI) :: (C, oC) :: (D, LCg.lst ys) :: (K, oK) :: (d.rs.map RowI.ent ++ S)))) (ht' : TabA tb') (hio : ListIt oI) (hCo : LCg.NsObj oC m₂) {v : Option Value} (hK : oK.data = .cell v) (h104 : @Ne Nat I 104)
    (off : LCg.Off3 I C D ((K, oK) :: (d.tb ++ (d.rs.map RowI.ent ++ S)))) (offK : ∀ p ∈ d.tb ++ (d.rs.map RowI.ent ++ S), p.1 ≠ K) :
    News g L h ((I, oI) :: (C, oC) :: (D, LCg.lst ys) :: (K, oK) :: (tb' ++ ((d.rs ++ [r]).map RowI.ent ++ S))) ∧ LCg.Off3 I C D ((K, oK) :: (tb' ++ ((d.rs ++ [r]).map RowI.ent ++ S))) ∧ ∀ p ∈ tb' ++ ((d.rs ++ [r]).map RowI.ent ++ S), p.1 ≠ K := by
  have o' := off1_mem o
  have hm := off.mem
  have mI : (I, oI) ∈ tb' ++ ((I, oI) :: (C, oC) :: (D, LCg.lst ys) :: (K, oK) :: (d.rs.map RowI.ent ++ S)) := List.mem_append_right _ (.head _)
  have mC : (C, oC) ∈ tb' ++ ((I, oI) :: (C, oC) :: (D, LCg.lst ys) :: (K, oK) :: (d.rs.map RowI.ent ++ S)) := List.mem_append_right _ (.tail _ (.head _))
  have mD : (D, LCg.lst ys) ∈ tb' ++ ((I, oI) :: (C, oC) :: (D, LCg.lst ys) :: (K, oK) :: (d.rs.map RowI.ent ++ S)) := List.mem_append_right _ (.tail _ (.tail _ (.head _)))
  have mK : (K, oK) ∈ tb' ++ ((I, oI) :: (C, oC) :: (D, LCg.lst ys) :: (K, oK) :: (d.rs.map RowI.ent ++ S)) := List.mem_append_right _ (.tail _ (.tail _ (.tail _ (.head _))))
  have htb : ∀ p ∈ tb', p.1 ≠ I ∧ p.1 ≠ C ∧ p.1 ≠ D := tab_off ht' N (fun p hp => .tail _ (List.mem_append_left _ hp)) (.tail _ mI) (.tail _ mC) (.tail _ mD) hio hCo h104
  have htK : ∀ p ∈ tb', p.1 ≠ K := fun p hp => apart_obj N (o := p.2) (.tail _ (List.mem_append_left _ hp)) (.tail _ mK) fun e => by
    obtain ⟨vs, hv⟩ := ht'.fieldsAll p hp
    rw [e, hK] at hv
    cases hv
  have hr : ∀ p ∈ (d.rs ++ [r]).map RowI.ent ++ S, (p.1 ≠ I ∧ p.1 ≠ C ∧ p.1 ≠ D) ∧ p.1 ≠ K := fun p hp => by
    rcases List.mem_append.mp hp with hp | hp
    · rw [List.map_append] at hp
      rcases List.mem_append.mp hp with hp | hp
      · exact ⟨hm p (.tail _ (List.mem_append_right _ (List.mem_append_left _ hp))), offK p (List.mem_append_right _ (List.mem_append_left _ hp))⟩
      · rw [List.map_cons, List.map_nil] at hp
        rw [List.mem_singleton.mp hp]
        exact ⟨⟨Ne.symm (o' _ mI), Ne.symm (o' _ mC), Ne.symm (o' _ mD)⟩, Ne.symm (o' _ mK)⟩
    · exact ⟨hm p (.tail _ (List.mem_append_right _ (List.mem_append_right _ hp))), offK p (List.mem_append_right _ (List.mem_append_right _ hp))⟩
  refine ⟨KStt.news_of N fun p hp => ?_, LCg.Off3.of fun p hp => ?_, fun p hp => ?_⟩
  · simp only [List.mem_cons, List.mem_append, List.map_append, List.map_cons, List.map_nil, List.not_mem_nil, or_false] at hp ⊢
    grind
  · rcases List.mem_cons.mp hp with rfl | hp
    · exact hm _ (.head _)
    rcases List.mem_append.mp hp with hp | hp
    · exact htb p hp
    · exact (hr p hp).1
  · rcases List.mem_append.mp hp with hp | hp
    · exact htK p hp
    · exact (hr p hp).2
end
section
variable {g h : Heap} {L Da : Addr} {ys : List Value} {tb R5 R6 : List (Addr × Obj)} {rp : List RowI}
noncomputable abbrev plR {g h : Heap} {L Da : Addr} {ys : List Value} {rp : List RowI} {k : Addr × Obj} {tb R5 : List (Addr × Obj)} (_ : News g L h ((Da, LCg.lst ys) :: (rp.map RowI.ent ++ (k :: (tb ++ R5))))) : List (Addr × Obj) := (Da, LCg.lst ys) :: (rp.map RowI.ent ++ R5)
theorem pl_pack (N : News g L h ((Da, LCg.lst ys) :: (rp.map RowI.ent ++ ((156, tabObj #[]) :: (tb ++ R5))))) (hR : R6 = plR N) (ht : TabA tb) (p4 : ∀ p ∈ R5, p.1 ≠ 104) (p6 : ∀ p ∈ R5, p.1 ≠ 156) :
    News g L h (tb ++ ([] ++ ((156, tabObj #[]) :: R6))) ∧ (∀ p ∈ R6, p.1 ≠ 104) ∧ (∀ p ∈ R6, p.1 ≠ 156) ∧ (Da, LCg.lst ys) ∈ R6 ∧ (∀ r ∈ rp, r.ent ∈ R6) ∧ ∀ p ∈ R5, p ∈ R6 := by
  subst hR
  obtain ⟨o4, ho4⟩ := ht.mem104
  obtain ⟨vs4, hv4⟩ := ht.fieldsAll _ ho4
  have m4 : (104, o4) ∈ (Da, LCg.lst ys) :: (rp.map RowI.ent ++ ((156, tabObj #[]) :: (tb ++ R5))) := .tail _ (List.mem_append_right _ (.tail _ (List.mem_append_left _ ho4)))
  have m6 : (156, tabObj #[]) ∈ (Da, LCg.lst ys) :: (rp.map RowI.ent ++ ((156, tabObj #[]) :: (tb ++ R5))) := .tail _ (List.mem_append_right _ (.head _))
  have hrow : ∀ r ∈ rp, r.ent ∈ (Da, LCg.lst ys) :: (rp.map RowI.ent ++ ((156, tabObj #[]) :: (tb ++ R5))) := fun r hr => .tail _ (List.mem_append_left _ (List.mem_map.mpr ⟨r, hr, rfl⟩))
  refine ⟨KStt.news_of N fun p hp => ?_, fun p hp => ?_, fun p hp => ?_, .head _, fun r hr => .tail _ (List.mem_append_left _ (List.mem_map.mpr ⟨r, hr, rfl⟩)), fun p hp => .tail _ (List.mem_append_right _ hp)⟩
  · simp only [plR, List.mem_cons, List.mem_append, List.nil_append] at hp ⊢
    grind
  · rcases List.mem_cons.mp hp with rfl | hp
    · exact apart_obj N (.head _) m4 fun e => by rw [← e] at hv4; cases hv4
    rcases List.mem_append.mp hp with hp | hp
    · obtain ⟨r, hr, rfl⟩ := List.mem_map.mp hp
      exact apart_obj N (hrow r hr) m4 fun e => by rw [← e] at hv4; cases hv4
    · exact p4 p hp
  · rcases List.mem_cons.mp hp with rfl | hp
    · exact apart_obj N (.head _) m6 fun e => by have := congrArg Obj.data e; cases this
    rcases List.mem_append.mp hp with hp | hp
    · obtain ⟨r, hr, rfl⟩ := List.mem_map.mp hp
      exact apart_obj N (hrow r hr) m6 fun e => by have := congrArg Obj.data e; cases this
    · exact p6 p hp
end
end Lw
end
example : True := by k_with_none; w_top off; trivial
section
open PySem PySem.W PyProof.Rows
namespace Lw
example : True := by
  k_with_none
  k_with "omega" => ((fail_if_success (fail_if_success (omega (config := {})))); first | lia | omega (config := {}))
  trivial
theorem all_yes (n : Nat) : (List.range n).all (fun _ => true) = true := by simp
section
variable {A : Around} {s : Shared} {g : Heap} {L : Addr} {l : List (Addr × Obj)}
theorem eq_lst {a b : Addr} {vs us : List Value} {c d : Nat} (N : News g L s.heap l) (ha : (a, ({ cls := .type "list", data := .seq vs.toArray c } : Obj)) ∈ l) (hb : (b, ({ cls := .type "list", data := .seq us.toArray d } : Obj)) ∈ l) (hn : vs.length = us.length) (hu : A.units < cLine)
    (he : ∀ (k : Nat) (x y : Value), vs[k]? = some x → us[k]? = some y → SeqAt.EqAt A.in1 s x y true) : SeqAt.EqAt A s (.ref a) (.ref b) true := by
  by_cases e : a = b
  · subst e
    exact .same _
  · have h := SeqAt.RcAt.lists (A := A) (e := fun _ => true) (News.isList N ha) (News.isList N hb) (by simpa using hn) hu fun j h1 h2 => he j _ _ (by simp at h1 ⊢) (by simp at h2 ⊢)
    rw [all_yes] at h
    exact .of_refs e h
theorem eq_tup {a b : Addr} {vs us : List Value} (N : News g L s.heap l) (ha : (a, ({ cls := .type "tuple", data := .seq vs.toArray 0 } : Obj)) ∈ l) (hb : (b, ({ cls := .type "tuple", data := .seq us.toArray 0 } : Obj)) ∈ l) (hn : vs.length = us.length) (hu : A.units < cLine)
    (he : ∀ (k : Nat) (x y : Value), vs[k]? = some x → us[k]? = some y → SeqAt.EqAt A.in1 s x y true) : SeqAt.EqAt A s (.ref a) (.ref b) true := by
  by_cases e : a = b
  · subst e
    exact .same _
  · have h := SeqAt.RcAt.tuples (A := A) (e := fun _ => true) (l := a) (b := b) (items := vs.toArray) (items2 := us.toArray) ⟨_, (N _ ha).1, rfl, _, rfl⟩ ⟨_, (N _ hb).1, rfl, _, rfl⟩ hu fun j h1 h2 => he j _ _ (by simp at h1 ⊢) (by simp at h2 ⊢)
    rw [all_yes, show (vs.toArray.size == us.toArray.size) = true by simpa using hn] at h
    exact .of_refs e h
theorem eq_pair {x₁ x₂ y₁ y₂ : Value} {A : Around} (h1 : SeqAt.EqAt A s x₁ y₁ true) (h2 : SeqAt.EqAt A s x₂ y₂ true) : ∀ (k : Nat) (x y : Value), [x₁, x₂][k]? = some x → [y₁, y₂][k]? = some y → SeqAt.EqAt A s x y true
  | 0, _, _, rfl, rfl => h1
  | 1, _, _, rfl, rfl => h2
  | _ + 2, _, _, h, _ => nomatch h
theorem eq_trip {x₁ x₂ x₃ y₁ y₂ y₃ : Value} {A : Around} (h1 : SeqAt.EqAt A s x₁ y₁ true) (h2 : SeqAt.EqAt A s x₂ y₂ true) (h3 : SeqAt.EqAt A s x₃ y₃ true) : ∀ (k : Nat) (x y : Value), [x₁, x₂, x₃][k]? = some x → [y₁, y₂, y₃][k]? = some y → SeqAt.EqAt A s x y true
  | 0, _, _, rfl, rfl => h1
  | 1, _, _, rfl, rfl => h2
  | 2, _, _, rfl, rfl => h3
  | _ + 3, _, _, h, _ => nomatch h
theorem eq_int {A : Around} {i j : Int} {t u : Tok} (h : i = j) : SeqAt.EqAt A s (.int i t) (.int j u) true := by
  have := SeqAt.EqAt.int_int (A := A) (s := s) i t j u
  rwa [show (i == j) = true by simp [h]] at this
theorem eq_str {A : Around} {i j : Str} {t u : Tok} (h : i = j) : SeqAt.EqAt A s (.str i t) (.str j u) true := by
  have := (eqGives_str i j t u).at A s
  rwa [show (i == j) = true by subst h; exact beq_self_eq_true i] at this
theorem eq_ans {T U : Addr} {n : NI} {ds : List DI} {k : Nat} (N : News g L s.heap l) (ha : AnsIs l n T) (hd : DueIs l ds k n.nm n.t U) (hj : n.rs.map (·.j) = ds.map (·.j)) (hr : n.rs.map (fun q => (q.v, q.tv, q.r)) = ds.map (DI.at k)) (hp : ∀ q ∈ n.rs, -1 ≤ q.r) (hu : A.units + 3 < cLine) : SeqAt.EqAt A s (.ref T) (.ref U) true := by
  obtain ⟨Lk, Ts, c, a1, a2, a3, a4⟩ := ha
  obtain ⟨v, Uk, Us, c', d0, d1, d2, d3, d4⟩ := hd
  rw [← hr] at d0
  have e := due_law d0 hp
  subst e
  refine eq_tup N a1 d1 rfl (by omega) (eq_trip (.same _) (.same _) ?_)
  refine eq_lst N a2 d2 ?_ (by show A.units + 1 < cLine; omega) fun i x y hx hy => ?_
  · have := congrArg List.length hj
    simp only [List.length_map] at this ⊢
    omega
  · simp only [List.getElem?_map, Option.map_eq_some_iff] at hx hy
    obtain ⟨x', hx, rfl⟩ := hx
    obtain ⟨y', hy, rfl⟩ := hy
    have hl := (List.getElem?_eq_some_iff.mp hx).1
    have hl' := (List.getElem?_eq_some_iff.mp hy).1
    obtain ⟨q, hq⟩ : ∃ q, n.rs[i]? = some q := ⟨_, List.getElem?_eq_getElem (by omega)⟩
    obtain ⟨d, hd⟩ : ∃ d, ds[i]? = some d := ⟨_, List.getElem?_eq_getElem (by omega)⟩
    have hqd : q.j = d.j := by
      have h1 : (n.rs.map (·.j))[i]? = some q.j := by rw [List.getElem?_map, hq]; rfl
      have h2 : (ds.map (·.j))[i]? = some d.j := by rw [List.getElem?_map, hd]; rfl
      rw [hj, h2] at h1
      exact (Option.some.inj h1).symm
    exact eq_tup N (a4 i q x' hq hx) (d4 i d y' hd hy) rfl (by show A.units + 1 + 1 < cLine; omega) (eq_pair (eq_int hqd) (eq_str rfl))
end
end Lw
end
example : True := by k_with_none; w_top off; trivial
section
open PySem PySem.W PyProof.Rows
namespace Lw
example : True := by
  k_with_none
  k_with "omega" => ((fail_if_success (fail_if_success (omega (config := {})))); first | lia | omega (config := {}))
  trivial
noncomputable abbrev rcR {g h : Heap} {L Da : Addr} {ys : List Value} {rs : List RowI} {k : Addr × Obj} {tb R6 : List (Addr × Obj)} (_ : News g L h ((Da, LCg.lst ys) :: (tb ++ (rs.map RowI.ent ++ k :: R6)))) : List (Addr × Obj) := (Da, LCg.lst ys) :: (rs.map RowI.ent ++ R6)
section
variable {g h : Heap} {L Da : Addr} {ys : List Value} {tb R6 R7 : List (Addr × Obj)} {rs : List RowI}
theorem rc_pack (N : News g L h ((Da, LCg.lst ys) :: (tb ++ (rs.map RowI.ent ++ (156, tabObj #[]) :: R6)))) (hR : R7 = rcR N) (ht : TabA tb) (p6 : ∀ p ∈ R6, p.1 ≠ 156) :
    News g L h ((156, tabObj #[]) :: (tb ++ R7)) ∧ (∀ p ∈ tb ++ R7, p.1 ≠ 156) ∧ (Da, LCg.lst ys) ∈ R7 ∧ (∀ r ∈ rs, r.ent ∈ R7) ∧ ∀ p ∈ R6, p ∈ R7 := by
  subst hR
  have m6 : (156, tabObj #[]) ∈ (Da, LCg.lst ys) :: (tb ++ (rs.map RowI.ent ++ (156, tabObj #[]) :: R6)) := .tail _ (List.mem_append_right _ (List.mem_append_right _ (.head _)))
  have hrow : ∀ r ∈ rs, r.ent ∈ (Da, LCg.lst ys) :: (tb ++ (rs.map RowI.ent ++ (156, tabObj #[]) :: R6)) := fun r hr => .tail _ (List.mem_append_right _ (List.mem_append_left _ (List.mem_map.mpr ⟨r, hr, rfl⟩)))
  refine ⟨KStt.news_of N fun p hp => ?_, fun p hp => ?_, .head _, fun r hr => .tail _ (List.mem_append_left _ (List.mem_map.mpr ⟨r, hr, rfl⟩)), fun p hp => .tail _ (List.mem_append_right _ hp)⟩
  · simp only [rcR, List.mem_cons, List.mem_append] at hp ⊢
    grind
  · rcases List.mem_append.mp hp with hp | hp
    · exact ht.far156 N (fun p hp => .tail _ (List.mem_append_left _ hp)) m6 p hp
    rcases List.mem_cons.mp hp with rfl | hp
    · exact apart_obj N (.head _) m6 fun e => by have := congrArg Obj.data e; cases this
    rcases List.mem_append.mp hp with hp | hp
    · obtain ⟨r, hr, rfl⟩ := List.mem_map.mp hp
      exact apart_obj N (hrow r hr) m6 fun e => by have := congrArg Obj.data e; cases this
    · exact p6 p hp
end
section
variable {A : Around} {s : Shared} {g : Heap} {L : Addr} {l : List (Addr × Obj)} {prog : Program} {w : World} {E : Value → Shared → Prop} {Q : Value → Shared → Prop}
theorem ne_lst {a b : Addr} {vs us : List Value} {c d : Nat} (N : News g L s.heap l) (ha : (a, ({ cls := .type "list", data := .seq vs.toArray c } : Obj)) ∈ l) (hb : (b, ({ cls := .type "list", data := .seq us.toArray d } : Obj)) ∈ l) (hn : vs.length = us.length) (hu : A.units < cLine)
    (he : ∀ (k : Nat) (x y : Value), vs[k]? = some x → us[k]? = some y → SeqAt.EqAt A.in1 s x y true) (h : Q (.bool false) s) : wpAny (model prog w) A (compareOp .NotEq (.ref a) (.ref b)) Q E s := by
  have k := SeqAt.RcNeAt.lists (A := A) (e := fun _ => true) (News.isList N ha) (News.isList N hb) (by simpa using hn) hu fun j h1 h2 => he j _ _ (by simp at h1 ⊢) (by simp at h2 ⊢)
  rw [all_yes] at k
  exact k prog w E Q h
theorem eq_lst_op {a b : Addr} {vs us : List Value} {c d : Nat} (N : News g L s.heap l) (ha : (a, ({ cls := .type "list", data := .seq vs.toArray c } : Obj)) ∈ l) (hb : (b, ({ cls := .type "list", data := .seq us.toArray d } : Obj)) ∈ l) (hn : vs.length = us.length) (hu : A.units < cLine)
    (he : ∀ (k : Nat) (x y : Value), vs[k]? = some x → us[k]? = some y → SeqAt.EqAt A.in1 s x y true) (h : Q (.bool true) s) : wpAny (model prog w) A (compareOp .Eq (.ref a) (.ref b)) Q E s := by
  have k := SeqAt.RcAt.lists (A := A) (e := fun _ => true) (News.isList N ha) (News.isList N hb) (by simpa using hn) hu fun j h1 h2 => he j _ _ (by simp at h1 ⊢) (by simp at h2 ⊢)
  rw [all_yes] at k
  exact k prog w E Q h
theorem eq_strs {ls ms : List (Str × Tok)} (e : ls.map (·.1) = ms.map (·.1)) : ∀ (k : Nat) (x y : Value), (strValues ls)[k]? = some x → (strValues ms)[k]? = some y → SeqAt.EqAt A s x y true := fun k x y hx hy => by
  obtain ⟨p, hp, rfl⟩ := str_item (ls := ls) (i := k) (by simpa using hx)
  obtain ⟨q, hq, rfl⟩ := str_item (ls := ms) (i := k) (by simpa using hy)
  refine eq_str ?_
  have h1 : (ls.map (·.1))[k]? = some p.1 := by rw [List.getElem?_map, hp]; rfl
  have h2 : (ms.map (·.1))[k]? = some q.1 := by rw [List.getElem?_map, hq]; rfl
  rw [e, h2] at h1
  exact (Option.some.inj h1).symm
theorem eq_ints {vs us : List Value} {ns : List Int} (h1 : IntsAre vs ns) (h2 : IntsAre us ns) : ∀ (k : Nat) (x y : Value), vs[k]? = some x → us[k]? = some y → SeqAt.EqAt A s x y true := fun k x y hx hy => by
  have hl : k < ns.length := by rw [← h1.length]; exact (List.getElem?_eq_some_iff.mp hx).1
  obtain ⟨u, e1⟩ := int_at h1 hl
  obtain ⟨t, e2⟩ := int_at h2 hl
  rw [hx] at e1
  rw [hy] at e2
  cases e1
  cases e2
  exact eq_int rfl
theorem eq_rows {nl : List (Str × Tok)} {qs : List Int} {n : Nat} {rs rp : List RowI} (N : News g L s.heap l) (h1 : RwsOk nl qs n rs) (h2 : RwsOk nl qs n rp) (m1 : ∀ r ∈ rs, r.ent ∈ l) (m2 : ∀ r ∈ rp, r.ent ∈ l) (hu : A.units < cLine) : ∀ (k : Nat) (x y : Value), (rs.map fun r => Value.ref r.a)[k]? = some x → (rp.map fun r => Value.ref r.a)[k]? = some y → SeqAt.EqAt A s x y true := fun k x y hx hy => by
  simp only [List.getElem?_map, Option.map_eq_some_iff] at hx hy
  obtain ⟨p, hp, rfl⟩ := hx
  obtain ⟨q, hq, rfl⟩ := hy
  have e1 := path_item (g := RowI.ns) h1.2 hp
  have e2 := path_item (g := RowI.ns) h2.2 hq
  have i1 := h1.1 p (List.mem_of_getElem? hp)
  have i2 := h2.1 q (List.mem_of_getElem? hq)
  rw [e1] at i1
  rw [e2] at i2
  exact eq_lst N (m1 p (List.mem_of_getElem? hp)) (m2 q (List.mem_of_getElem? hq)) (by rw [i1.length, i2.length]) hu (eq_ints i1 i2)
end
theorem rws_len {nl : List (Str × Tok)} {qs : List Int} {n : Nat} {rs : List RowI} (h : RwsOk nl qs n rs) : rs.length = n := by
  have := congrArg List.length h.2
  simpa using this
theorem far_ge {y x : Str} : -1 ≤ farF y x := by
  unfold farF
  cases c : (farRun y (KStt.codes (wholeF x))).getLast? with
  | none => exact Int.le_refl _
  | some p =>
    have := (farRun_ok y (KStt.codes (wholeF x))).1 p (List.mem_of_getLast? c)
    show -1 ≤ p
    omega
theorem rows_in {nl : List (Str × Tok)} {qs : List Int} {rs : List RowI} {rest : List (Addr × Obj)} (h : RwsOk nl qs 5 rs) (hm : ∀ r ∈ rs, r.ent ∈ rest) : RowsIn rest nl rs := fun r hr => by
  obtain ⟨i, hi⟩ := List.mem_iff_getElem?.mp hr
  have e := path_item (g := RowI.ns) h.2 hi
  refine ⟨⟨hm r hr, h.1 r hr, by rw [e]; simp [rowN]⟩, fun a ha => ?_, fun i j p q hp hq hpq => ?_⟩
  · rw [e] at ha
    obtain ⟨q, _, rfl⟩ := List.mem_map.mp ha
    exact far_ge
  · rw [e]
    unfold rowN
    rw [List.getD_eq_getElem?_getD, List.getD_eq_getElem?_getD, List.getElem?_map, List.getElem?_map, hp, hq]
    show farF p.1 _ = farF q.1 _
    rw [hpq]
theorem row_fits {qs : List Int} {j : Nat} : JoinOk (Str.ofString "*") (rowF qs j) = true := by
  have hw := whole_len (path_len (qs := qs) (j := j))
  have h3 := split_count (wholeF (pathF qs j)).cps.toList
  have hwl : (wholeF (pathF qs j)).cps.toList.length = (wholeF (pathF qs j)).length := by simp [Str.length]
  have hl : (rowF qs j).length = (splitL (wholeF (pathF qs j)).cps.toList).length := by simp [rowF, rawF]
  have h1 := sum_le (ys := rowF qs j) (b := 6) fun y hy => Nat.le_trans (raw_short hy) hw
  have e : (Str.ofString "*").length = 1 := by decide
  refine joinOk_of ?_
  rw [e]
  omega
end Lw
end
example : True := by k_with_none; w_top off; trivial
section
open PySem PySem.W PyProof.Rows
namespace Lw
example : True := by
  k_with_none
  k_with "omega" => ((fail_if_success (fail_if_success (omega (config := {})))); first | lia | omega (config := {}))
  trivial
noncomputable def tvOf : Value → Bool
  | .int _ _ => true
  | _ => false
theorem tv_at {vv : List Value} {k : Nat} {v : Value} (h : vv[k]? = some v) : (vv.map tvOf).getD k false = tvOf v := by
  rw [List.getD_eq_getElem?_getD, List.getElem?_map, h]
  rfl
theorem lt5 {a b c e d : Nat} {P : Prop} (h : @LT.lt Nat instLTNat a d ∧ @LT.lt Nat instLTNat b d ∧ @LT.lt Nat instLTNat c d ∧ @LT.lt Nat instLTNat e d ∧ @LT.lt Nat instLTNat 156 d ∧ P) : @LT.lt Nat instLTNat 156 d := h.2.2.2.2.1
theorem vd_in {prog : Program} {w : World} {rest : List (Addr × Obj)} {fs vv : List Value} {D l d : Addr} {tk : Tok} {od : Obj} (mt : (D, ({ cls := .type "tuple", data := .seq #[] 0 } : Obj)) ∈ rest) (me : (l, W.listOf #[] 0) ∈ rest) (md : (d, od) ∈ rest) (hs : od.IsDictOf (PySem.strKind prog w) []) (hd' : @LT.lt Nat instLTNat 156 d)
    (hfs : fs = [.str (Str.ofString "") tk, .ref D, .none, .ref l, .ref d]) (h : VdOk fs 5 vv) : VerdIn prog w rest vv (vv.map tvOf) := fun k v hv => by
  have hd : (d == sysModules) = false := by
    cases c : (d == sysModules) with
    | false => rfl
    | true =>
      have e : d = 1 := eq_of_beq c
      rw [e] at hd'
      exact absurd hd' (by decide)
  rw [tv_at hv]
  have h5 : k < 5 := by rw [← h.1]; exact (List.getElem?_eq_some_iff.mp hv).1
  rcases h.2 k v hv with ⟨t, rfl⟩ | e
  · refine ⟨fun A E s h₀ L Q N c => truthy_int ?_, rfl⟩
    rw [show (10 + (k : Int) != 0) = true by simp; omega]
    exact c s.toks
  · rw [hfs] at e
    match k, h5, e with
    | 0, _, e =>
      cases e
      exact ⟨fun A E s h₀ L Q N c => P.truthy_str (by decide) (c _), rfl⟩
    | 1, _, e =>
      cases e
      exact ⟨fun A E s h₀ L Q N c => truthy_tuple (items := #[]) ⟨_, (N _ mt).1, rfl, _, rfl⟩ (by decide) (c _), rfl⟩
    | 2, _, e =>
      cases e
      exact ⟨fun A E s h₀ L Q N c => truthy_none (c s.toks), rfl⟩
    | 3, _, e =>
      cases e
      exact ⟨fun A E s h₀ L Q N c => wpAny_truthy_list (News.isList N me) (by decide) (c _), rfl⟩
    | 4, _, e =>
      cases e
      exact ⟨fun A E s h₀ L Q N c => wpAny_truthy_dict hd (kda_dict N md hs) (by decide) (c _), rfl⟩
    | k + 5, h5, _ => exact absurd h5 (by omega)
theorem DueIs.mono {nx nx' : List (Addr × Obj)} {ds : List DI} {k : Nat} {nm : Str} {t : Tok} {T : Addr} (h : DueIs nx ds k nm t T) (hs : ∀ p ∈ nx, p ∈ nx') : DueIs nx' ds k nm t T := by
  obtain ⟨v, Lk, Us, c, h1, h2, h3, h4, h5⟩ := h
  exact ⟨v, Lk, Us, c, h1, hs _ h2, hs _ h3, h4, fun i d U a b => hs _ (h5 i d U a b)⟩
noncomputable def diOf (vv : List Value) (rp : List RowI) (j : Nat) (t : Tok) : DI := ⟨(j : Int), t, j, vv.getD j .none, (vv.map tvOf).getD j false, (rp.getD j ⟨0, 0, [], []⟩).a, (rp.getD j ⟨0, 0, [], []⟩).c, (rp.getD j ⟨0, 0, [], []⟩).vs, (rp.getD j ⟨0, 0, [], []⟩).ns⟩
theorem di_in {prog : Program} {w : World} {rest : List (Addr × Obj)} {nl : List (Str × Tok)} {qs : List Int} {vv : List Value} {rp : List RowI} {j : Nat} {t : Tok} (hj : j < 5) (hv : VerdIn prog w rest vv (vv.map tvOf)) (h5 : vv.length = 5) (hr : RwsOk nl qs 5 rp) (hm : ∀ r ∈ rp, r.ent ∈ rest) : DIn prog w rest vv (rp.map (·.a)) nl.length (diOf vv rp j t) := by
  have hl := rws_len hr
  obtain ⟨v, e⟩ : ∃ v, vv[j]? = some v := ⟨_, List.getElem?_eq_getElem (by omega)⟩
  obtain ⟨r, e2⟩ : ∃ r, rp[j]? = some r := ⟨_, List.getElem?_eq_getElem (by omega)⟩
  have hv := hv j v e
  have er := path_item (g := RowI.ns) hr.2 e2
  have hmem := List.mem_of_getElem? e2
  unfold diOf
  rw [show vv.getD j .none = v by rw [List.getD_eq_getElem?_getD, e]; rfl, show rp.getD j ⟨0, 0, [], []⟩ = r by rw [List.getD_eq_getElem?_getD, e2]; rfl]
  exact ⟨.inl ⟨by show (0 : Int) ≤ (j : Int); omega, by show (j : Int) < ((5 : Nat) : Int); omega, by show j = ((j : Nat) : Int).toNat; rfl⟩, e, by rw [List.getElem?_map, e2]; rfl, hm r hmem, hr.1 r hmem, by rw [er]; simp [rowN], hv.1, hv.2⟩
theorem row_ns {nl : List (Str × Tok)} {qs : List Int} {rs : List RowI} (h : RwsOk nl qs 5 rs) {j : Nat} (hj : j < 5) : (rs.map RowI.ns).getD j [] = rowN nl qs j ∧ (rs.getD j ⟨0, 0, [], []⟩).ns = rowN nl qs j := by
  have hl := rws_len h
  obtain ⟨r, e2⟩ : ∃ r, rs[j]? = some r := ⟨_, List.getElem?_eq_getElem (by omega)⟩
  have er := path_item (g := RowI.ns) h.2 e2
  refine ⟨?_, ?_⟩
  · rw [List.getD_eq_getElem?_getD, List.getElem?_map, e2]; exact er
  · rw [List.getD_eq_getElem?_getD, e2]; exact er
theorem eq_answers {A : Around} {s : Shared} {g : Heap} {L : Addr} {l : List (Addr × Obj)} {nl : List (Str × Tok)} {qs : List Int} {vv : List Value} {rs rp : List RowI} {xs : List (Addr × Tok)} {a b : Addr} {ord : List Nat} {ts : List Tok} {ds : List DI} {Ts : List Addr} {c : Nat} (N : News g L s.heap l) (h1 : RwsOk nl qs 5 rs) (h2 : RwsOk nl qs 5 rp)
    (ha : ListAns l a (nisFrom (ord.map (ruOf vv (vv.map tvOf) rs xs)) 0 nl)) (hb : (b, ({ cls := .type "list", data := .seq (Ts.map Value.ref).toArray c } : Obj)) ∈ l) (hT : Ts.length = nl.length) (hd : ∀ (k : Nat) (q : Str × Tok) (T : Addr), nl[k]? = some q → Ts[k]? = some T → DueIs l ds k q.1 q.2 T)
    (hds : ds = (ord.zip ts).map fun z => diOf vv rp z.1 z.2) (hts : ts.length = ord.length) (ho : ord.all (· < 5) = true) (hu : A.units + 4 < cLine) : SeqAt.EqAt A s (.ref a) (.ref b) true := by
  obtain ⟨Us, c', a1, a2, a3⟩ := ha
  rw [nis_length] at a2
  refine eq_lst N a1 hb (by simp only [List.length_map]; omega) (by omega) fun k x y hx hy => ?_
  simp only [List.getElem?_map, Option.map_eq_some_iff] at hx hy
  obtain ⟨U, hU, rfl⟩ := hx
  obtain ⟨T, hT', rfl⟩ := hy
  have hk : k < nl.length := by rw [← hT]; exact (List.getElem?_eq_some_iff.mp hT').1
  obtain ⟨q, hq⟩ : ∃ q, nl[k]? = some q := ⟨_, List.getElem?_eq_getElem hk⟩
  have hn : (nisFrom (ord.map (ruOf vv (vv.map tvOf) rs xs)) 0 nl)[k]? = some ⟨q.1, q.2, (ord.map (ruOf vv (vv.map tvOf) rs xs)).map (RU.at k)⟩ := by rw [nis_at, hq, Nat.zero_add]; rfl
  have ez : ∀ (f : Nat → Int) , ord.map f = (ord.zip ts).map fun z => f z.1 := fun f => by
    rw [show (fun z : Nat × Tok => f z.1) = f ∘ Prod.fst from rfl, ← List.map_map, List.map_fst_zip (by omega)]
  have ez2 : ∀ (f : Nat → Value × Bool × Int) , ord.map f = (ord.zip ts).map fun z => f z.1 := fun f => by
    rw [show (fun z : Nat × Tok => f z.1) = f ∘ Prod.fst from rfl, ← List.map_map, List.map_fst_zip (by omega)]
  refine eq_ans N (a3 k _ U hn hU) (hd k q T hq hT') ?_ ?_ ?_ (by show A.units + 1 + 3 < cLine; omega)
  · show List.map (fun x : RI => x.j) ((ord.map _).map _) = _
    rw [hds, List.map_map, List.map_map, ez, List.map_map]
    exact List.map_congr_left fun z _ => by simp [RU.at, ruOf, diOf]
  · show List.map (fun q : RI => (q.v, q.tv, q.r)) ((ord.map _).map _) = _
    rw [hds, List.map_map, List.map_map, ez2, List.map_map]
    refine List.map_congr_left fun z hz => ?_
    have hz5 : z.1 < 5 := by simpa using List.all_eq_true.mp ho z.1 (List.of_mem_zip (a := z.1) (b := z.2) hz).1
    simp only [Function.comp, RU.at, ruOf, diOf, DI.at]
    rw [(row_ns h1 hz5).1, (row_ns h2 hz5).2]
  · intro z hz
    obtain ⟨u, hu, rfl⟩ := List.mem_map.mp hz
    obtain ⟨j, hj, rfl⟩ := List.mem_map.mp hu
    have hj5 : j < 5 := by simpa using List.all_eq_true.mp ho j hj
    show -1 ≤ ((rs.map RowI.ns).getD j []).getD k 0
    rw [(row_ns h1 hj5).1, List.getD_eq_getElem?_getD]
    unfold rowN
    rw [List.getElem?_map, hq]
    exact far_ge
end Lw
end
example : True := by k_with_none; w_top off; trivial
section
open PySem PySem.W PyProof.Rows
namespace Lw
noncomputable def dsOf (vv : List Value) (rp : List RowI) (o : List Nat) (ts : List Tok) : List DI := (o.zip ts).map fun z => diOf vv rp z.1 z.2
theorem ds_one {a : Addr} {t1 t2 t3 t4 t5 : Tok} {l : List (Addr × Obj)} {g h : Heap} {L : Addr} (_ : News g L h ((a, W.listOf #[.int 0 t1, .int 2 t2, .int 4 t3, .int 1 t4, .int 3 t5] 0) :: l)) (vv : List Value) (rp : List RowI) :
    ∃ ts : List Tok, ts.length = 5 ∧ (a, ({ cls := .type "list", data := .seq ((dsOf vv rp [0, 2, 4, 1, 3] ts).map fun d => Value.int d.j d.tj).toArray 0 } : Obj)) ∈ (a, W.listOf #[.int 0 t1, .int 2 t2, .int 4 t3, .int 1 t4, .int 3 t5] 0) :: l := ⟨[t1, t2, t3, t4, t5], rfl, .head _⟩
theorem ds_two {a : Addr} {t1 t2 t3 t4 t5 : Tok} {l : List (Addr × Obj)} {g h : Heap} {L : Addr} (_ : News g L h ((a, W.listOf #[.int 1 t1, .int 3 t2, .int 0 t3, .int 2 t4, .int 4 t5] 0) :: l)) (vv : List Value) (rp : List RowI) :
    ∃ ts : List Tok, ts.length = 5 ∧ (a, ({ cls := .type "list", data := .seq ((dsOf vv rp [1, 3, 0, 2, 4] ts).map fun d => Value.int d.j d.tj).toArray 0 } : Obj)) ∈ (a, W.listOf #[.int 1 t1, .int 3 t2, .int 0 t3, .int 2 t4, .int 4 t5] 0) :: l := ⟨[t1, t2, t3, t4, t5], rfl, .head _⟩
theorem ds_len {vv : List Value} {rp : List RowI} {o : List Nat} {ts : List Tok} (h : ts.length = o.length) : (dsOf vv rp o ts).length = o.length := by
  unfold dsOf
  rw [List.length_map, List.length_zip, h, Nat.min_self]
theorem ds_in {prog : Program} {w : World} {rest news : List (Addr × Obj)} {nl : List (Str × Tok)} {qs : List Int} {vv : List Value} {rp : List RowI} {o : List Nat} {ts : List Tok} (ho : o.all (· < 5) = true) (hv : VerdIn prog w rest vv (vv.map tvOf)) (h5 : vv.length = 5) (hr : RwsOk nl qs 5 rp) (hm : ∀ r ∈ rp, r.ent ∈ rest) (hs : ∀ p ∈ rest, p ∈ news) : ∀ d ∈ dsOf vv rp o ts, DIn prog w news vv (rp.map (·.a)) nl.length d := fun d hd => by
  obtain ⟨z, hz, rfl⟩ := List.mem_map.mp hd
  have hz5 : z.1 < 5 := by simpa using List.all_eq_true.mp ho z.1 (List.of_mem_zip (a := z.1) (b := z.2) hz).1
  obtain ⟨a1, a2, a3, a4, a5, a6, a7, a8⟩ := di_in (t := z.2) hz5 hv h5 hr hm
  exact ⟨a1, a2, a3, hs _ a4, a5, a6, a7.mono hs, a8⟩
theorem rows_refs {a : Addr} {rp : List RowI} {l : List (Addr × Obj)} (h : (a, LCg.lst (rp.map fun r => Value.ref r.a)) ∈ l) : (a, ({ cls := .type "list", data := .seq ((rp.map (·.a)).map Value.ref).toArray (rp.map fun r => Value.ref r.a).length } : Obj)) ∈ l := by
  rw [List.map_map]
  exact h
theorem due_facts {news nw : List (Addr × Obj)} {ds : List DI} {ls : List (Str × Tok)} {v : Value} (h : DueOut news ds ls v nw) : ∃ (AL : Addr) (Ts : List Addr) (c : Nat), v = .ref AL ∧ (AL, ({ cls := .type "list", data := .seq (Ts.map Value.ref).toArray c } : Obj)) ∈ nw ∧ Ts.length = ls.length ∧
    (∀ (k : Nat) (q : Str × Tok) (T : Addr), ls[k]? = some q → Ts[k]? = some T → DueIs nw ds k q.1 q.2 T) ∧ ∀ p ∈ news, p ∈ nw := by
  obtain ⟨AL, Ts, own, c, h1, rfl, _, _, h5, h6⟩ := h
  exact ⟨AL, Ts, c, h1, .head _, h5, fun k q T a b => (h6 k q T a b).mono fun p hp => .tail _ (List.mem_append_left _ hp), fun p hp => .tail _ (List.mem_append_right _ hp)⟩
theorem tabA_grown {g h : Heap} {L : Addr} {l tb : List (Addr × Obj)} (N : News g L h l) (ht : TabA tb) (hs : ∀ p ∈ tb, p ∈ l) : GrownAt 104 h := by
  rcases ht with rfl | ⟨c, oc, vs, t, rfl, _⟩
  · exact GrownAt.of N (hs _ (.head _))
  · exact GrownAt.of N (hs _ (.tail _ (.head _)))
theorem tabB_grown {g h : Heap} {L : Addr} {l tb : List (Addr × Obj)} (N : News g L h l) (ht : TabB tb) (hs : ∀ p ∈ tb, p ∈ l) : GrownAt 156 h := by
  rcases ht with rfl | ⟨c, oc, vs, t, rfl, _⟩
  · exact GrownAt.of N (hs _ (.head _))
  · exact GrownAt.of N (hs _ (.tail _ (.head _)))
end Lw
end
example : True := by k_with_none; w_top off; trivial
section
open PySem PySem.W PyProof.Rows
namespace Lw
noncomputable def as : List Addr := [2, 3, 22, 24, 25, 27, 28, 29, 31, 32, 34, 35, 36, 38, 39, 41, 42, 43, 45, 46, 48, 49, 50, 51, 52, 53, 54, 58,
          62, 64, 65, 67, 68, 69, 71, 72, 74, 75, 76, 78, 79, 81, 82, 83, 90, 91, 92, 93, 96, 98, 99, 101, 102, 103,
          105, 106, 108, 109, 110, 112, 113, 115, 116, 117, 119, 120, 122, 123, 124, 126, 127, 129, 130, 131, 133, 134,
          136, 137, 138, 141, 142, 143, 145, 146, 148, 149, 150, 153, 154, 155, 157, 158, 160, 161, 162, 164, 165, 167,
          168, 169, 171, 172, 174, 175, 176, 179, 180, 181, 184, 185, 186, 189, 190, 191, 194, 195]
noncomputable abbrev Leaf (os : OsState) (w : World) : Prop := (topFrom treeTable PySem.Challenge.pw_nb0127_01 w 4916 ⟨boot_heap w.params, Array.mk [], boot_drawn, boot_toks, os⟩).map
    (fun s => (openSeen qv lo (importedModules PySem.Challenge.pw_nb0127_01.main.body) (fun s => xlAt qv [] s && recOk [] s) true s, (as.map s.heap.get?, [156, 104].map s.heap.get?))) =
  some (openGood qv lo, ((hd.heap_1 w.params).map fun p => some p.2, [156, 104].map fun _ => some (tabObj #[])))
theorem leaf1 (os : OsState) : ∀ w : World, Leaf os ((w.withFollow "special-get-raises" false).withFollow "comprehension-iter-twice" false) := by
  intro w
  unfold Leaf topFrom topStub openGood
  rw [Fast.te14082659384304107361, Fast.te14364793385576792824, Fast.te4187177175401517315, Fast.te8920871248978507458, Fast.te17154629097778926822, Fast.te12822647523644345616, Fast.te6905046200447255374, Fast.te5923862056798008813]
  kernel_rfl
theorem leaf2 (os : OsState) : ∀ w : World, Leaf os ((w.withFollow "special-get-raises" true).withFollow "comprehension-iter-twice" false) := by
  intro w
  unfold Leaf topFrom topStub openGood
  rw [Fast.te14082659384304107361, Fast.te14364793385576792824, Fast.te4187177175401517315, Fast.te8920871248978507458, Fast.te17154629097778926822, Fast.te12822647523644345616, Fast.te6905046200447255374, Fast.te5923862056798008813]
  kernel_rfl
theorem leaf3 (os : OsState) : ∀ w : World, Leaf os ((w.withFollow "special-get-raises" false).withFollow "comprehension-iter-twice" true) := by
  intro w
  unfold Leaf topFrom topStub openGood
  rw [Fast.te14082659384304107361, Fast.te14364793385576792824, Fast.te4187177175401517315, Fast.te8920871248978507458, Fast.te17154629097778926822, Fast.te12822647523644345616, Fast.te6905046200447255374, Fast.te5923862056798008813]
  kernel_rfl
theorem leaf4 (os : OsState) : ∀ w : World, Leaf os ((w.withFollow "special-get-raises" true).withFollow "comprehension-iter-twice" true) := by
  intro w
  unfold Leaf topFrom topStub openGood
  rw [Fast.te14082659384304107361, Fast.te14364793385576792824, Fast.te4187177175401517315, Fast.te8920871248978507458, Fast.te17154629097778926822, Fast.te12822647523644345616, Fast.te6905046200447255374, Fast.te5923862056798008813]
  kernel_rfl
theorem leaf (os : OsState) (w : World) : Leaf os w := by4 (fun a b => by
  cases a <;> cases b
  · exact leaf1 os
  · exact leaf2 os
  · exact leaf3 os
  · exact leaf4 os) w
theorem left : _root_.PySem.W.LeftO PySem.Challenge.pw_nb0127_01 qv lo (fun s => xlAt qv [] s && recOk [] s) (fun s => (as.map s.heap.get?, [156, 104].map s.heap.get?))
    (fun w => ((hd.heap_1 w.params).map fun p => some p.2, [156, 104].map fun _ => some (tabObj #[]))) 4916 := left_of boot leaf
end Lw
end
example : True := by k_with_none; w_top off; trivial
section
open PySem PySem.W PyProof.Rows
set_option pp.maxSteps 300
namespace Lw
example : True := by
  k_with_none
  k_with "omega" => ((fail_if_success (fail_if_success (omega (config := {})))); first | lia | omega (config := {}))
  k_with "callWith ref" => ((k_here; k_dflt (refine' callWith_K ?kAw90 ?kBw90 ?_; (case kAw90 => k_asm); (case kBw90 => k_is); k_whole)))
  k_with "eval Name" => ((k_here; (fail_if_success (with_reducible show wpAny _ _ (eval (Expr.Name _ _) (compEnvC _ _ _ _)) _ _ _)); k_dflt (first | (refine' nameX_L ?Fw91 ?vw91 ?_ ?aw91 ?bw91; (case bw91 => rfl); (case Fw91 => k_asm); (case aw91 => rfl); (case vw91 => rfl); k_whole) | (refine' nameX_C ?Nw92 ?cw92 ?mw92 ?dw92 ?_ ?aw92 ?bw92; (case bw92 => rfl); (case aw92 => rfl); (case Nw92 => k_asm); (case cw92 => rfl); (case mw92 => k_mem); (case dw92 => k_asm); k_whole) | (refine' nameX_K ?Fw93 ?Xw93 ?Tw93 ?ew93 ?_ ?aw93 ?bw93; (case bw93 => rfl); (case Fw93 => k_asm); (case Xw93 => k_asm); (case Tw93 => k_asm); (case aw93 => rfl); (case ew93 => k_is); k_whole) | (refine' nameX_B ?Fw94 ?Xw94 ?Tw94 ?ew94 ?vw94 ?nw94 ?_ ?aw94 ?bw94; (case bw94 => rfl); (case Fw94 => k_asm); (case Xw94 => k_asm); (case Tw94 => k_asm); (case aw94 => rfl); (case ew94 => k_is); (case vw94 => boot_fast); (case nw94 => decide); k_whole))))
  k_with "execs cons" => ((k_here; refine execs_G ?_; intro G9w hG9w))
  k_with "Go" => (((try dsimp only); first | (refine go_next_S (by with_reducible assumption) ?_; intro tSw) | refine go_ret (by with_reducible assumption) ?_ | refine go_cont (by with_reducible assumption) ?_ | refine go_brk (by with_reducible assumption) ?_))
  k_with "k_ne" => ((with_reducible first | assumption | exact Ne.symm (by assumption) | exact Nat.ne_of_lt (by assumption) | exact Ne.symm (Nat.ne_of_lt (by assumption)) | fail "k_ne"))
  k_with "ktr_room" => (first | exact room_a (by with_reducible assumption) rfl | exact room_b (by with_reducible assumption) rfl | exact room_c (by with_reducible assumption) rfl | fail "room")
  k_with "ktr_units" => (first | exact room_a (by with_reducible assumption) rfl | exact room_b (by with_reducible assumption) rfl | exact room_c (by with_reducible assumption) rfl | fail "room")
  k_with "k_room" => (ktr_room)
  k_with "k_all" => (first | with_reducible assumption | exact all_gt (by assumption) (by ((try dsimp only); omega)))
  k_with "k_all" => (exact all_gtT (by assumption) (by ((try dsimp only); omega)))
  k_with "k_mem" => (assumption)
  k_with "eval ListComp" => ((k_here; refine stopAt ?_))
  k_with "exec Assign cons ListComp" => ((k_here; refine stopAt ?_))
  k_with "eval Name" => ((k_here; (with_reducible show wpAny _ _ (eval (Expr.Name _ _) (compEnvC _ _ _ _)) _ _ _); k_dflt (refine ld_cell (by k_asm) (by rfl) (by k_mem) (by assumption) ?_)))
  k_with "subscriptTail" => ((k_here; (with_reducible show wpAny _ _ (subscriptTail _ _ (Value.ref _) (Value.int _ _)) _ _ _); k_dflt (refine item_val' (by k_asm) (by k_mem) (by with_reducible assumption) ?_)))
  k_with "call builtin:str.join" => ((k_here; refine stopAt ?_))
  k_with "compareOp NotEq ref ref" => ((k_here; refine stopAt ?_))
  k_with "compareOp Eq ref ref" => ((k_here; refine stopAt ?_))
  k_with "call ref" => ((k_here; refine stopAt ?_))
  trivial
theorem any_E {α : Type} {M : Model} {A : Around} {t : Sem α} {Q : α → Shared → Prop} {E : Value → Shared → Prop} {s : Shared} (h : ∀ E, wpAny M A t Q E s) : wpAny M A t Q E s := h E
theorem nw_skip {g h : Heap} {L : Addr} {a b : Addr × Obj} {l : List (Addr × Obj)} (N : News g L h (a :: b :: l)) : News g L h (a :: l) := KStt.news_of N fun p hp => by
  rcases List.mem_cons.mp hp with rfl | hp
  · exact .head _
  · exact .tail _ (.tail _ hp)
noncomputable abbrev nwR6 {g h : Heap} {L : Addr} {a b c d e f k t : Addr × Obj} (_ : News g L h [a, b, c, d, e, f, k, t]) : List (Addr × Obj) := [a, b, c, d, e, f, k]
noncomputable abbrev nwItems {a : Addr} {vs : List Value} {n : Nat} {l : List (Addr × Obj)} (_ : (a, ({ cls := .type "list", data := .seq vs.toArray n } : Obj)) ∈ l) : List Value := vs
theorem nw_last {g h : Heap} {L : Addr} {a b c d e f k t : Addr × Obj} (N : News g L h [a, b, c, d, e, f, k, t]) : News g L h ([t] ++ ([] ++ nwR6 N)) := KStt.news_of N fun p hp => by
  have hp : p ∈ [t] ++ ([] ++ [a, b, c, d, e, f, k]) := hp
  simp only [List.mem_append, List.mem_cons, List.not_mem_nil, or_false, false_or] at hp ⊢
  grind
noncomputable def ofWalk {A C : Prop} {P : World → Shared → Shared → (Str → Option Value) → (Str → Option Value) → Prop} (_ : (A ∧ ∀ w s₀ s₁ mg mb, P w s₀ s₁ mg mb) → C) : World → Shared → Shared → (Str → Option Value) → (Str → Option Value) → Prop := P
theorem walk_of {A C : Prop} {P : World → Shared → Shared → (Str → Option Value) → (Str → Option Value) → Prop} (h : (A ∧ ∀ w s₀ s₁ mg mb, P w s₀ s₁ mg mb) → C) (a : A) (k : ∀ w s₀ s₁ mg mb, ofWalk h w s₀ s₁ mg mb) : C := h ⟨a, k⟩
namespace Fin9
noncomputable def P0 (x : World × Shared × Shared × (Str → Option Value) × (Str → Option Value)) : Prop := ofWalk hd x.1 x.2.1 x.2.2.1 x.2.2.2.1 x.2.2.2.2
noncomputable def k0 : World × Shared × Shared × (Str → Option Value) × (Str → Option Value) := henk (aWorld 1, hen_s, hen_s, fun _ => none, fun _ => none) P0
@[irreducible] noncomputable def w : World := k0.1
@[irreducible] noncomputable def s₀ : Shared := k0.2.1
@[irreducible] noncomputable def s₁ : Shared := k0.2.2.1
@[irreducible] noncomputable def mg : Str → Option Value := k0.2.2.2.1
@[irreducible] noncomputable def mb : Str → Option Value := k0.2.2.2.2
theorem main : ofWalk hd w s₀ s₁ mg mb := by
  unfold ofWalk
  intro G Y fa o pm cd doc dV kV ho hd hcd hD hmg hg args vals as hpre hlay hrd hwl hlo
  have KX := km_in_of Y
  km_tabs Y
  have X := (Ground.X G).1
  have V := (Ground.X G).2
  refine Ground.open G ?_
  intro T B D TE TW
  try (refine guard_noD D (by decide +kernel) ?_; clear D)
  km_lay T hmg ho hd cd
  clear hmg
  wrow_args hpre hlay hrd hwl hlo
  all_goals (
    first | refine callC_kw (enter_call ?_) | refine enter_call ?_
    w_top on
    kn_posts
    w_call any ho hd hcd hD T F
    clear hd
    kn_ghosts F T
    k_drop
    skip)
  (all_goals try k_fold)
  refine any_E ?_
  intro E9
  have hret : True := trivial
  k_steps
  show wpAny _ _ _ _ _ _
  with_reducible rename IntsAre _ _ => hI
  with_reducible rename News _ _ _ _ => N1
  with_reducible rename Fr _ _ _ _ => F1
  refine' cells_call _ _ _ _ _ _ hI ?xn _ _ _ _ _ _ _ _ _ _ _ _ _ _ _ _ _ _ _ _ _ _ ?xB ?xF ?xX ?xN ?xT ?xl ?xk ?xdd ?xu ?_
  case xF => k_asm
  case xB => k_asm
  case xN => k_asm
  case xX => k_asm
  case xT => k_asm
  case xk => exact rfl
  case xdd => ktr_room
  case xu => ktr_units
  case xl => assumption
  case xn => omega
  intro c n vs qs h' tk' hi hq F2 N2
  have c3 : @Ne Nat c (_ + 1 + 1 + 1) := apart_obj N2 (.head _) (.tail _ (.head _)) (fun e => by
    have h := congrArg Obj.data e
    repeat (with_reducible rename Obj.data _ = Data.cell _ => z; first | (rw [z] at h; cases h; done) | clear z))
  have c2 : @Ne Nat c (_ + 1 + 1) := apart_obj N2 (.head _) (.tail _ (.tail _ (.head _))) (fun e => by
    have h := congrArg Obj.data e
    repeat (with_reducible rename Obj.data _ = Data.cell _ => z; first | (rw [z] at h; cases h; done) | clear z))
  have c1 : @Ne Nat c (_ + 1) := apart_obj N2 (.head _) (.tail _ (.tail _ (.tail _ (.head _)))) (fun e => by
    have h := congrArg Obj.data e
    repeat (with_reducible rename Obj.data _ = Data.cell _ => z; first | (rw [z] at h; cases h; done) | clear z))
  k_steps
  show wpAny _ _ _ _ _ _
  refine' text_call _ _ _ _ _ _ _ _ _ ?xm (by assumption) ?xn ?xl _ _ _ _ _ _ _ _ _ _ _ _ _ _ _ _ _ _ _ _ _ _ ?xB ?xF ?xX ?xN ?xT ?xk ?xdd ?xu ?_
  case xF => k_asm
  case xB => k_asm
  case xN => k_asm
  case xX => k_asm
  case xT => k_asm
  case xk => exact rfl
  case xdd => ktr_room
  case xu => ktr_units
  case xm => exact .head _
  case xn => omega
  case xl => exact Nat.le_of_ble_eq_true rfl
  rintro v9 nw9 h9 tk9 ⟨rfl, u9, rfl⟩ F9 N9
  have N9 : News _ _ _ (_ :: _ :: _ :: _ :: _ :: _ :: _ :: []) := N9
  refine exR (textF (Str.ofString "ab.()") (List.drop 25 qs)) fun nm hnm => ?_
  have hnl : nm.length ≤ 7 := by rw [hnm]; exact Nat.le_trans text_len (by rw [List.length_drop, hq]; exact Nat.le_of_ble_eq_true rfl)
  rw [← hnm]
  k_steps
  with_reducible rename News _ _ _ _ => N3
  with_reducible rename Fr _ _ _ _ => F3
  have hrl := fun t => Txt.sliceBy_le nm none none (-1, t) (by show (-1 : Int) ≠ 0; decide)
  replace N3 := nw_skip N3
  refine Assign_ListComp_V F3 (by rfl) (by with_unfolding_all rfl) (by with_unfolding_all rfl) (by decide) (by rfl) (by decide) (by rfl) (by rfl) (by rfl) ?_
  k_steps
  show SrcV _ _ _ _ _ _ _ _ _ _ _ _ _ _
  with_reducible rename News _ _ _ _ => N4
  with_reducible rename Fr _ _ _ _ => F4
  with_reducible rename IsRange _ _ _ _ _ _ _ _ => rg4
  refine SrcV.range (fun _ _ => nwAll N4) (fun _ (ls : List (Str × Tok)) => strValues ls) (fun i ls => ls.map (·.1) = (List.range i).map (pathF qs)) [] rfl F4 N4 rfl rfl rg4 (small_one (by omega) (by omega) (by omega) (by omega)) (n := 5) (by decide) (by size_fits) ?_ ?_
  · intro i d v I oI C oC D m₂ h tk E' G hi hok hP hio hC hx F5 N5 off ne hG
    obtain ⟨t0, rfl⟩ := hP
    dsimp only [nwAll] at N5 off hG
    k_steps
    show wpAny _ _ _ _ _ _
    with_reducible rename News _ _ _ _ => N6
    with_reducible rename Fr _ _ _ _ => F6
    with_reducible rename IntsAre _ _ => hI6
    rw [cells_five hq hi] at hI6
    refine' text_call _ _ _ _ _ _ _ _ _ ?xm hI6 ?xn ?xl _ _ _ _ _ _ _ _ _ _ _ _ _ _ _ _ _ _ _ _ _ _ ?xB ?xF ?xX ?xN ?xT ?xk ?xdd ?xu ?_
    case xF => k_asm
    case xB => k_asm
    case xN => k_asm
    case xX => k_asm
    case xT => k_asm
    case xk => exact rfl
    case xdd => ktr_room
    case xu => ktr_units
    case xm => exact .head _
    case xn => rw [List.length_take]; omega
    case xl => exact Nat.le_of_ble_eq_true rfl
    rintro v9 nw9 h9 tk9 ⟨rfl, u9, rfl⟩ F9 N9
    exact hG _ (d ++ [(pathF qs i, u9)]) _ _ (by rw [List.map_append, hok, List.range_succ, List.map_append]; rfl) (by simp [strValues]; rfl) F9 (fun p hp => N9 p (.tail _ hp)) off
  · intro ls hok Dp h tk F5 N5 o5
    dsimp only [nwAll] at N5 o5
    show Go _ _ _
    k_steps
    refine Assign_ListComp_V F5 (by rfl) (by with_unfolding_all rfl) (by with_unfolding_all rfl) (by decide) (by rfl) (by decide) (by rfl) (by rfl) (by rfl) ?_
    refine exR (nwR6 N5) fun R hR => ?_
    have N6 := nw_last N5
    rw [← hR] at N6
    have hR4 : ∀ p ∈ R, p.1 ≠ 104 := by
      rw [hR]
      intro p hp
      have hp : p ∈ [_, _, _, _, _, _, _] := hp
      simp only [List.mem_cons, List.not_mem_nil, or_false] at hp
      rcases hp with rfl | rfl | rfl | rfl | rfl | rfl | rfl
      · exact Ne.symm (off1_mem o5 (104, tabObj #[]) (.tail _ (.tail _ (.tail _ (.tail _ (.tail _ (.tail _ (.head _))))))))
      · k_ne
      · exact apart_obj N5 (.tail _ (.tail _ (.head _))) (.tail _ (.tail _ (.tail _ (.tail _ (.tail _ (.tail _ (.tail _ (.head _)))))))) (fun e => by have := congrArg Obj.data e; cases this)
      · k_ne
      · k_ne
      · k_ne
      · k_ne
    k_steps
    show SrcV _ _ _ _ _ _ _ _ _ _ _ _ _ _
    have hokp := hok
    have hls : ls.length = 5 := by have := congrArg List.length hok; simpa using this
    have tA0 : TabA [(104, tabObj #[])] := .inl rfl
    refine SrcV.list (its := (strValues ls).toArray) (k := (strValues ls).length) (fun _ d => d.tb ++ (d.xs.map PcI.ent ++ R)) (fun _ d => d.xs.map fun p => Value.ref p.a) (PcsOk qs) ⟨[(104, tabObj #[])], []⟩ rfl F5 N6 ?k1 rfl ?k2 ?k3 ?k4 ?k5
    case k1 => exact ⟨.inl rfl, fun p hp => (nomatch hp), rfl⟩
    case k2 => exact fun i d _ => List.mem_append_right _ (List.mem_append_right _ (by rw [hR]; exact .head _))
    case k3 => rw [List.size_toArray]; simp only [strValues, List.length_map, hls]; decide
    case k4 =>
      intro i d v I oI C oC D m₂ h tk E' G hi hok hP hio hC hx F5 N5 off ne hG
      dsimp only at N5 off hG
      refine hideG ?_
      intro b9 hb9
      rcases str_item hP with ⟨⟨q1, q2⟩, hq1, rfl⟩
      refine hb9 ?_
      clear hb9 b9
      have e1 : q1 = pathF qs i := path_item hokp hq1
      subst e1
      have n104 := pcs_104 (oI := oI) (oC := oC) (ys := d.xs.map fun p => Value.ref p.a) hok off hR4
      k_steps
      show wpAny _ _ _ _ _ _
      refine' translate_call _ _ _ _ _ (Nat.le_trans path_len (Nat.le_of_ble_eq_true rfl)) _ _ _ _ _ _ _ _ _ _ _ _ _ _ _ _ _ _ _ _ _ _ ?xB ?xF ?xX ?xN ?xT ?xk ?xdd ?xu ?_
      case xF => k_asm
      case xB => k_asm
      case xN => k_asm
      case xX => k_asm
      case xT => k_asm
      case xk => exact rfl
      case xdd => ktr_room
      case xu => ktr_units
      rintro v9 nw9 h9 tk9 ⟨rfl, u9, rfl⟩ F9 N9
      have N9 := pcs_in N9
      k_steps
      show wpAny _ _ _ _ _ _
      refine' pieces_call _ _ d.tb ((I, oI) :: (C, oC) :: (D, LCg.lst (d.xs.map fun p => Value.ref p.a)) :: (d.xs.map PcI.ent ++ R)) _ _ hok.1 (trans_len path_len path_six) n104 _ _ _ _ _ _ _ _ _ _ _ _ _ _ _ _ _ ?xB ?xF ?xX ?xN ?xT ?xX2 ?xT2 ?xC1 ?xC2 ?xfr ?xk ?xdd ?xu ?_
      case xN => exact N9
      case xF => k_asm
      case xB => k_asm
      case xX => k_asm
      case xX2 => k_asm
      case xT => k_asm
      case xT2 => k_asm
      case xC1 => k_asm
      case xC2 => k_asm
      case xfr => exact rfl
      case xk => exact rfl
      case xdd => ktr_room
      case xu => ktr_units
      intro v9 nw9 h9 tk9 hP9 F9 N9
      rcases hP9 with ⟨tb', ht', ⟨e, _⟩ | ⟨Dq, lq, cq, rfl, e, rfl, hne⟩⟩
      · rw [pieces_law path_six] at e
        cases e
      · rw [pieces_law path_six] at e
        obtain ⟨o4, ho4⟩ := ht'.mem104
        exact hG _ ⟨tb', d.xs ++ [⟨Dq, cq, lq⟩]⟩ _ _ (pcs_next hok ht' (Option.some.inj e).symm (Ne.symm (hne (104, o4) (List.mem_append_left _ ho4)))) (by simp) F9 (pcs_out (p := ⟨Dq, cq, lq⟩) N9) (pcs_off (p := ⟨Dq, cq, lq⟩) N9 ht' hio hC off (n104 _ (.head _)) hne)
    case k5 =>
      intro d hok2 Dr h tk F7 N7 o7
      obtain ⟨tb1, xs1⟩ := d
      rw [hR] at N7 o7
      have N8 := pcs_done N7
      have o5' := off1_mem o5
      have t1 : TabA tb1 := hok2.1
      have far3 := pcs_far N8 (fun p hp => .tail _ (.tail _ hp)) (.head _) (fun vs n e => (by repeat (with_reducible rename Obj.data _ = Data.cell _ => z; first | (rw [z] at e; cases e; done) | clear z))) (fun p hp => apart_obj N8 (o := p.2) (.tail _ (.tail _ (List.mem_append_left _ hp))) (.head _) fun e => by
        obtain ⟨vs, hv⟩ := t1.fieldsAll p hp
        rw [e] at hv
        clear e
        have e := hv
        exact (by repeat (with_reducible rename Obj.data _ = Data.cell _ => z; first | (rw [z] at e; cases e; done) | clear z))) (Ne.symm (o5' _ (.tail _ (.tail _ (.head _))))) (by k_ne) c3 (by k_ne) (by k_ne)
      have far6 := pcs_far (k := 156) N8 (fun p hp => .tail _ (.tail _ hp)) (.tail _ (.head _)) (fun vs n e => by cases e) (t1.far156 N8 (fun p hp => .tail _ (.tail _ (List.mem_append_left _ hp))) (.tail _ (.head _))) (Ne.symm (o5' _ (.tail _ (.tail _ (.tail _ (.tail _ (.tail _ (.head _)))))))) (by k_ne) (apart_obj N5 (.tail _ (.tail _ (.head _))) (.tail _ (.tail _ (.tail _ (.tail _ (.tail _ (.tail _ (.head _))))))) (fun e => by have := congrArg Obj.data e; cases this)) (by k_ne) (by k_ne)
      refine exR (nwT2 N8) fun R3 hR3 => ?_
      have g3 := pcs_farR hR3 far3
      have g6 := pcs_farR hR3 far6
      refine hideG ?_
      intro b9 hb9
      rcases pcs_mem N8 hR3 with ⟨mr, mx, mp, mn, mc, mk2, mk1, N9⟩
      refine hb9 ?_
      clear hb9 b9
      have g4 : ∀ p ∈ R3, p.1 ≠ 104 := by
        rw [hR] at hR4
        obtain ⟨o4, ho4⟩ := t1.mem104
        exact pcs_no104 hR3 hR4 hok2.2.1 (Ne.symm (off1_mem o7 (104, o4) (List.mem_append_left _ ho4)))
      clear hR3 far3 far6 N8 N7 N6
      dsimp only at g3 g6 mr mx N9 hok2
      have hok2 : PcsOk qs 5 ⟨tb1, xs1⟩ := by rw [List.size_toArray, strValues, List.length_map, hls] at hok2; exact hok2
      have up : ∀ p ∈ R3, p ∈ nwAll N9 := fun p hp => .tail _ (.tail _ (List.mem_append_right _ hp))
      have ur := up _ mr
      have up' := up _ mp
      have un := up _ mn
      have uc := up _ mc
      have uk2 := up _ mk2
      have uk1 := up _ mk1
      have hxl : xs1.length = 5 := by have := congrArg List.length hok2.2.2; simpa using this
      dsimp only [nwAll] at ur up' un uc uk2 uk1
      show Go _ _ _
      (try dsimp only)
      k_steps
      show wpAny _ _ _ _ _ _
      refine ListComp_V F7 (by rfl) (by decide) (by rfl) (by decide) (by rfl) ?_
      k_steps
      show SrcV _ _ _ _ _ _ _ _ _ _ _ _ _ _
      refine SrcV.list (its := (xs1.map fun p => Value.ref p.a).toArray) (k := (xs1.map fun p => Value.ref p.a).length) (fun _ (_ : Unit) => nwAll N9) (fun i _ => List.replicate i (Value.bool false)) (fun _ _ => True) () rfl F7 N9 trivial rfl ?k2 ?k3 ?k4 ?k5
      case k2 => exact fun i d _ => ur
      case k3 => rw [List.size_toArray, List.length_map, hxl]; decide
      case k4 =>
        intro i d v I oI C oC D m₂ h tk E' G hi hok hP hio hC hx F5 N5 off ne hG
        dsimp only [nwAll] at N5 off hG
        obtain ⟨p, hp, rfl⟩ : ∃ p, xs1[i]? = some p ∧ v = Value.ref p.a := by
          simp only [List.getElem?_toArray, List.getElem?_map, Option.map_eq_some_iff] at hP
          obtain ⟨p, h1, h2⟩ := hP
          exact ⟨p, h1, h2.symm⟩
        k_steps
        exact hG _ () _ _ trivial List.replicate_succ' F5 N5 off
      case k5 =>
        intro d _ Db h tk F9 N10 o9
        (try dsimp only [nwAll] at N10 o9)
        refine exR ((List.map (fun p => Value.ref p.a) xs1).toArray.size) fun nb hnb => ?_
        rw [← hnb] at N10
        k_steps
        refine' LSm.any_bools (vs := List.replicate nb (.bool false)) F9 N10 rfl ?k4 (bools_no _) ?_; (case k4 => exact News.isList N10 (.head _))
        intro h4 tk4 F10 N11
        rw [any_no]
        replace N11 : News _ _ _ (nwAll N9) := fun p hp => N11 p (.tail _ hp)
        k_steps
        show wpAny _ _ _ _ _ _
        refine Assign_ListComp_V F10 (by rfl) (by with_unfolding_all rfl) (by with_unfolding_all rfl) (by decide) (by rfl) (by decide) (by rfl) (by rfl) (by rfl) ?_
        k_steps
        show SrcV _ _ _ _ _ _ _ _ _ _ _ _ _ _
        refine SrcV.list (its := (strValues ls).toArray) (k := (strValues ls).length) (fun _ _ => nwAll N9) (fun _ (lw : List (Str × Tok)) => strValues lw) (fun i lw => lw.map (·.1) = (List.range i).map fun j => wholeF (pathF qs j)) [] rfl F10 N11 rfl rfl ?k2 ?k3 ?k4 ?k5
        case k2 => exact fun i d _ => up'
        case k3 => rw [List.size_toArray]; simp only [strValues, List.length_map, hls]; decide
        case k4 =>
          intro i d v I oI C oC D m₂ h tk E' G hi hok hP hio hC hx F5 N5 off ne hG
          dsimp only [nwAll] at N5 off hG
          obtain ⟨q, hq1, rfl⟩ := str_item hP
          have e1 : q.1 = pathF qs i := path_item hokp hq1
          rw [e1] at hx
          have pl := path_len (qs := qs) (j := i)
          k_steps
          · exact hG _ (d ++ [(Str.ofString "*" ++ pathF qs i, _)]) _ _ (by rw [List.map_append, hok, List.range_succ, List.map_append, List.map_cons, List.map_cons, whole_no (by assumption)]; rfl) (by simp [strValues]; rfl) (by k_asm) (by k_asm) off
          · exact hG _ (d ++ [(pathF qs i, _)]) _ _ (by rw [List.map_append, hok, List.range_succ, List.map_append, List.map_cons, List.map_cons, whole_yes (by assumption)]; rfl) (by simp [strValues]; rfl) (by k_asm) (by k_asm) off
        case k5 =>
          intro lw hokw Dw h tk F11 N12 o12
          (try dsimp only [nwAll] at N12 o12)
          have dw3 : @Ne Nat _ _ := off1_mem o12 _ (.head _)
          have g36 : ∀ p ∈ (156, tabObj #[]) :: (tb1 ++ R3), p.1 ≠ _ := List.forall_mem_cons.mpr ⟨by k_ne, g3⟩
          dsimp only at dw3
          have dw6 : @Ne Nat _ _ := off1_mem o12 _ (.tail _ (.head _))
          have dw4 : @Ne Nat 104 Dw := by
            obtain ⟨o4, ho4⟩ := t1.mem104
            exact off1_mem o12 (104, o4) (.tail _ (.tail _ (List.mem_append_left _ ho4)))
          dsimp only at dw6
          k_steps
          show wpAny _ _ _ _ _ _
          with_reducible rename News _ _ _ _ => N13
          with_reducible rename Fr _ _ _ _ => F13
          have N14 := vd_pack N13
          refine exR (nwT1 N14) fun R4 hR4 => ?_
          have q4 := vd_far (n := 104) (by k_ne) (by k_ne) (by k_ne) (by k_ne) (by k_ne) (by k_ne) g4 hR4
          have q6 := vd_far (n := 156) (by k_ne) (by k_ne) (by k_ne) (by k_ne) (by k_ne) (by k_ne) (fun p hp => g6 p (List.mem_append_right _ hp)) hR4
          refine hideG ?_
          intro b9 hb9
          rcases vd_mem N14 hR4 with ⟨mf, md, me, mt, mw, mk3, upR, N15⟩
          refine hb9 ?_
          clear hb9 b9
          clear N13 N14 hR4
          have up4 : ∀ p ∈ R4, p ∈ nwAll N15 := fun p hp => .tail _ (List.mem_append_right _ hp)
          have vf := up4 _ mf
          have vd := up4 _ md
          have ve := up4 _ me
          have vt := up4 _ mt
          have vw := up4 _ mw
          have vk3 := up4 _ mk3
          have vr := up4 _ (upR _ mr)
          have vp := up4 _ (upR _ mp)
          have vn := up4 _ (upR _ mn)
          have vc := up4 _ (upR _ mc)
          have vk2 := up4 _ (upR _ mk2)
          have vk1 := up4 _ (upR _ mk1)
          clear ur up' un uc uk2 uk1 up
          dsimp only [nwAll] at vf vd ve vt vw vk3 vr vp vn vc vk2 vk1
          refine Assign_ListComp_V F13 (by rfl) (by with_unfolding_all rfl) (by with_unfolding_all rfl) (by decide) (by rfl) (by decide) (by rfl) (by rfl) (by rfl) ?_
          k_steps
          show SrcV _ _ _ _ _ _ _ _ _ _ _ _ _ _
          with_reducible rename News _ _ _ _ => N15
          with_reducible rename Fr _ _ _ _ => F15
          with_reducible rename IsRange _ _ _ _ _ _ _ _ => rg
          refine exR (nwItems vf) fun fs hfs => ?_
          refine SrcV.range (fun _ _ => nwAll N15) (fun _ (vs : List Value) => vs) (VdOk fs) [] rfl F15 N15 ⟨rfl, fun k v h => by simp at h⟩ rfl rg (small_one (by omega) (by omega) (by omega) (by omega)) (n := 5) (by decide) (by size_fits) ?k4 ?k5
          case k4 =>
            intro i d v I oI C oC D m₂ h tk E' G hii hok hP hio hC hx F5 N5 off ne hG
            obtain ⟨t0, rfl⟩ := hP
            dsimp only [nwAll] at N5 off hG
            obtain ⟨uq, hvq⟩ := int_at hi (i := 5 * i) (by omega)
            have y1 : ItemIs vs (5 * (0 + (i : Int))) (.int (qs.getD (5 * i) 0) uq) := ⟨by rw [hi.length, hq]; exact Nat.le_of_ble_eq_true rfl, 5 * i, .inl ⟨by omega, by rw [hi.length, hq]; omega, by omega⟩, hvq⟩
            refine exI (l := fs) (i := i) (by rw [hfs]; exact hii) fun f0 hf0 => ?_
            have y2 : ItemIs fs (0 + (i : Int)) f0 := item5 (by rw [hfs]; rfl) (k := i) (by omega) hf0
            rw [hfs] at y2
            k_steps
            · exact hG _ (d ++ [_]) _ _ (vd_next hok (.inl ⟨_, by rw [Int.zero_add]⟩)) rfl (by k_asm) (by k_asm) off
            · exact hG _ (d ++ [f0]) _ _ (vd_next hok (.inr hf0)) rfl (by k_asm) (by k_asm) off
          case k5 =>
            intro vv hvv Dv h tk F16 N16 o16
            (try dsimp only [nwAll] at N16 o16)
            have a6 : @Ne Nat 156 Dv := off1_mem o16 _ (.head _)
            have a4 : @Ne Nat 104 Dv := by
              obtain ⟨o4, ho4⟩ := t1.mem104
              exact off1_mem o16 (104, o4) (.tail _ (List.mem_append_left _ ho4))
            refine exR (nwNames mn) fun nl hnl => ?_
            have hab : (nm ++ Str.ofString "ab").length ≤ 9 := by
              have e : (Str.ofString "ab").length = 2 := by decide
              have h0 : (nm ++ Str.ofString "ab").length = nm.length + (Str.ofString "ab").length := by simp only [Str.length, app_cps, ← Array.length_toList, List.length_append]
              omega
            obtain ⟨mn', hn3, hnL⟩ := names_mem mn hnl (by omega) (Nat.le_trans (hrl _) (by omega)) hab
            refine exR ((Dv, LCg.lst vv) :: R4) fun R5 hR5 => ?_
            have p4 : ∀ p ∈ R5, p.1 ≠ 104 := by rw [hR5]; exact List.forall_mem_cons.mpr ⟨Ne.symm a4, q4⟩
            have p6 : ∀ p ∈ R5, p.1 ≠ 156 := by rw [hR5]; exact List.forall_mem_cons.mpr ⟨Ne.symm a6, q6⟩
            have mv : (Dv, LCg.lst vv) ∈ R5 := by rw [hR5]; exact .head _
            have upV : ∀ p ∈ R4, p ∈ R5 := fun p hp => by rw [hR5]; exact .tail _ hp
            have N17 : News _ _ _ ((156, tabObj #[]) :: (tb1 ++ R5)) := KStt.news_of N16 (fun p hp => by
              rw [hR5] at hp
              simp only [List.mem_cons, List.mem_append] at hp ⊢
              grind)
            clear N16 hR5
            have up5 : ∀ p ∈ R5, p ∈ nwAll N17 := fun p hp => .tail _ (List.mem_append_right _ hp)
            have xp := up5 _ (upV _ (upR _ mp))
            have xr := up5 _ (upV _ (upR _ mr))
            have xn := up5 _ (upV _ (upR _ mn'))
            have xk2 := up5 _ (upV _ (upR _ mk2))
            clear vd ve vt vw vk3 vr vp vn vc vk2 vk1 up4
            dsimp only [nwAll] at xp xr xn xk2
            show Go _ _ _
            (try dsimp only)
            k_steps
            show wpAny _ _ _ _ _ _
            refine Assign_ListComp_K F16 (by rfl) (by with_unfolding_all rfl) (by with_unfolding_all rfl) (fun _ => rfl) (fun _ => rfl) (by rfl) (by decide) (fun _ _ => rfl) (by rfl) (by rfl) ?_
            k_steps
            show SrcK _ _ _ _ _ _ _ _ _ _ _ _ _ _
            refine SrcK.list (its := (strValues ls).toArray) (k := (strValues ls).length) (fun _ d => d.map RowI.ent ++ nwAll N17) (fun _ (d : List RowI) => d.map fun r => Value.ref r.a) (RwsOk nl qs) [] rfl F16 N17 ?k1 rfl ?k2 ?k3 ?k4 ?k5
            case k1 => exact ⟨fun r hr => (nomatch hr), rfl⟩
            case k2 => exact fun i d _ => List.mem_append_right _ xp
            case k3 => rw [List.size_toArray]; simp only [strValues, List.length_map, hls]; decide
            case k4 =>
              intro i d v I oI C oC D K oK m₂ h tk E' G hii hok hP hio hC hK F5 N5 off offK ne hG
              dsimp only at N5 off offK hG
              obtain ⟨q, hq1, rfl⟩ := str_item hP
              have e1 : q.1 = pathF qs i := path_item hokp hq1
              rw [e1] at hK
              have pl := path_len (qs := qs) (j := i)
              have zn := List.mem_append_right (d.map RowI.ent) xn
              have zk2 := List.mem_append_right (d.map RowI.ent) xk2
              refine ListComp_V F5 (by rfl) (by decide) (by rfl) (by decide) (by rfl) ?_
              k_steps
              show SrcV _ _ _ _ _ _ _ _ _ _ _ _ _ _
              refine SrcV.list (its := (strValues nl).toArray) (k := 0) (fun _ _ => nwAll N5) (fun _ (vs : List Value) => vs) (fun j vs => IntsAre vs ((nl.take j).map fun q => farF q.1 (pathF qs i))) [] rfl F5 N5 .nil rfl ?j2 ?j3 ?j4 ?j5
              case j2 => exact fun j vs _ => .tail _ (.tail _ (.tail _ (.tail _ zn)))
              case j3 => rw [List.size_toArray]; simp only [strValues, List.length_map, hn3]; decide
              case j4 =>
                intro j vs v I2 oI2 C2 oC2 D2 m₃ h2 tk2 E2 G2 hjj hokj hPj hioj hCj hxj F6 N6 off6 ne6 hG2
                dsimp only [nwAll] at N6 off6 hG2
                obtain ⟨y, hy1, rfl⟩ := str_item hPj
                have hyl := hnL y (List.mem_of_getElem? hy1)
                k_steps
                show wpAny _ _ _ _ _ _
                refine' far_call _ _ _ _ _ _ _ (by omega) (by omega) _ _ _ _ _ _ _ _ _ _ _ _ _ _ _ _ _ _ _ _ _ _ ?xB ?xF ?xX ?xN ?xT ?xk ?xdd ?xu ?_
                case xF => k_asm
                case xB => k_asm
                case xN => k_asm
                case xX => k_asm
                case xT => k_asm
                case xk => exact rfl
                case xdd => ktr_room
                case xu => ktr_units
                rintro v9 nw9 h9 tk9 ⟨rfl, u9, rfl⟩ F9 N9
                exact hG2 _ (vs ++ [_]) _ _ (ints_next hokj hy1 rfl) rfl F9 N9 off6
              case j5 =>
                intro vs hvs Dj h2 tk2 F6 N6 o6
                dsimp only [nwAll] at N6 o6
                have hvs : IntsAre vs (rowN nl qs i) := by
                  rw [List.size_toArray, List.take_of_length_le (by simp [strValues])] at hvs
                  exact hvs
                have f9 := rws_off (r := ⟨Dj, vs.length, vs, rowN nl qs i⟩) o6 off offK
                exact hG _ (d ++ [⟨Dj, vs.length, vs, rowN nl qs i⟩]) _ _ (rws_next hok hvs rfl) (by simp) F6 (rws_out (r := ⟨Dj, vs.length, vs, rowN nl qs i⟩) N6) f9.1 f9.2
            case k5 =>
              intro rp hrp Dpl h tk F18 N18 o18
              refine exR (plR N18) fun R6 hR6 => ?_
              refine hideG ?_
              intro b9 hb9
              rcases pl_pack N18 hR6 t1 p4 p6 with ⟨N19, z4, z6, mpl, mrp, upP⟩
              refine hb9 ?_
              clear hb9 b9
              clear hR6 N18
              have hrp5 : RwsOk nl qs 5 rp := by rw [List.size_toArray, strValues, List.length_map, hls] at hrp; exact hrp
              have z46 : ∀ p ∈ (156, tabObj #[]) :: R6, p.1 ≠ 104 := List.forall_mem_cons.mpr ⟨by k_ne, z4⟩
              have wr := upP _ (upV _ (upR _ mr))
              have wn := upP _ (upV _ (upR _ mn'))
              have wk2 := upP _ (upV _ (upR _ mk2))
              have wx : ∀ p ∈ xs1, p.ent ∈ R6 := fun p hp => upP _ (upV _ (upR _ (mx p hp)))
              clear xp xr xn xk2 up5
              have xr : (Dr, LCg.lst (xs1.map fun p => Value.ref p.a)) ∈ tb1 ++ ([] ++ ((156, tabObj #[]) :: R6)) := List.mem_append_right _ (.tail _ wr)
              show Go _ _ _
              (try dsimp only)
              k_steps
              show wpAny _ _ _ _ _ _
              refine Assign_ListComp_K F18 (by rfl) (by with_unfolding_all rfl) (by with_unfolding_all rfl) (fun _ => rfl) (fun _ => rfl) (by rfl) (by decide) (fun _ _ => rfl) (by rfl) (by rfl) ?_
              k_steps
              show SrcK _ _ _ _ _ _ _ _ _ _ _ _ _ _
              refine SrcK.list (its := (xs1.map fun p => Value.ref p.a).toArray) (k := (xs1.map fun p => Value.ref p.a).length) (fun _ d => d.tb ++ (d.rs.map RowI.ent ++ ((156, tabObj #[]) :: R6))) (fun _ (d : RcX) => d.rs.map fun r => Value.ref r.a) (RcOk nl qs) ⟨tb1, []⟩ rfl F18 N19 ?k1 rfl ?k2 ?k3 ?k4 ?k5
              case k1 => exact ⟨t1, ⟨fun r hr => (nomatch hr), rfl⟩, fun r hr => (nomatch hr)⟩
              case k2 => exact fun i d _ => List.mem_append_right _ (List.mem_append_right _ (.tail _ wr))
              case k3 => rw [List.size_toArray, List.length_map, hxl]; decide
              case k4 =>
                intro i d v I oI C oC D K oK m₂ h tk E' G hii hok hP hio hC hK F5 N5 off offK ne hG
                dsimp only at N5 off offK hG
                obtain ⟨p, hp, rfl⟩ : ∃ p, xs1[i]? = some p ∧ v = Value.ref p.a := by
                  simp only [List.getElem?_toArray, List.getElem?_map, Option.map_eq_some_iff] at hP
                  obtain ⟨p, h1, h2⟩ := hP
                  exact ⟨p, h1, h2.symm⟩
                have hpr : p.ls.map (·.1) = rowF qs i := path_item (g := fun p : PcI => p.ls.map (·.1)) hok2.2.2 hp
                have mpe := wx p (List.mem_of_getElem? hp)
                refine hideG ?_
                intro b9 hb9
                rcases p with ⟨pa, pc, pls⟩
                rcases row_shape hpr with ⟨q0, mid, ql, rfl, s1, s2, s3, s4, s5, s6⟩
                refine hb9 ?_
                clear hb9 b9
                have T4 := rc_104 (oI := oI) (oC := oC) (oD := LCg.lst (d.rs.map fun r => Value.ref r.a)) hok.1 off offK hok.2.2 z46
                have zn := List.mem_append_right d.tb (List.mem_append_right (d.rs.map RowI.ent) (List.mem_cons_of_mem (156, tabObj #[]) wn))
                have zk2 := List.mem_append_right d.tb (List.mem_append_right (d.rs.map RowI.ent) (List.mem_cons_of_mem (156, tabObj #[]) wk2))
                refine ListComp_V F5 (by rfl) (by decide) (by rfl) (by decide) (by rfl) ?_
                k_steps
                show SrcV _ _ _ _ _ _ _ _ _ _ _ _ _ _
                have N6 := rc_in N5
                have hI4 : @Ne Nat I 104 := T4 _ (.head _)
                refine exR ((I, oI) :: (C, oC) :: (D, LCg.lst (d.rs.map fun r => Value.ref r.a)) :: (K, oK) :: (d.rs.map RowI.ent ++ (156, tabObj #[]) :: R6)) fun TT hTT => ?_
                rw [← hTT] at N6
                have T4 : ∀ p ∈ TT, p.1 ≠ 104 := by rw [hTT]; exact fun p hp => T4 p hp
                have tn := (List.mem_append_right (d.rs.map RowI.ent) (List.mem_cons_of_mem (156, tabObj #[]) wn))
                have tp := (List.mem_append_right (d.rs.map RowI.ent) (List.mem_cons_of_mem (156, tabObj #[]) mpe))
                have upT : ∀ p ∈ d.rs.map RowI.ent ++ (156, tabObj #[]) :: R6, p ∈ TT := by rw [hTT]; exact fun p hp => .tail _ (.tail _ (.tail _ (.tail _ hp)))
                have tn := upT _ tn
                have tp := upT _ tp
                have mKT : (K, oK) ∈ TT := by rw [hTT]; exact .tail _ (.tail _ (.tail _ (.head _)))
                refine SrcV.list (its := (strValues nl).toArray) (k := 0) (fun _ (e : List (Addr × Obj) × List Value) => e.1 ++ TT) (fun _ e => e.2) (fun j e => TabA e.1 ∧ IntsAre e.2 ((nl.take j).map fun q => farF q.1 (pathF qs i))) (d.tb, []) rfl F5 N6 ⟨hok.1, .nil⟩ rfl ?j2 ?j3 ?j4 ?j5
                case j2 => exact fun j e _ => List.mem_append_right _ tn
                case j3 => rw [List.size_toArray]; simp only [strValues, List.length_map, hn3]; decide
                case j4 =>
                  intro j e v I2 oI2 C2 oC2 D2 m₃ h2 tk2 E2 G2 hjj hokj hPj hioj hCj hxj F7 N7 off7 ne7 hG2
                  dsimp only at N7 off7 hG2
                  obtain ⟨y, hy1, rfl⟩ := str_item hPj
                  have hyl := hnL y (List.mem_of_getElem? hy1)
                  have zK := List.mem_append_right e.1 mKT
                  have U4 := far104 (oI := oI2) (oC := oC2) (oD := LCg.lst e.2) hokj.1 off7 T4
                  clear N5 N6 hTT
                  k_steps
                  show wpAny _ _ _ _ _ _
                  refine' reach_call _ _ e.1 ((I2, oI2) :: (C2, oC2) :: (D2, LCg.lst e.2) :: TT) pa pc q0 ql mid _ _ hokj.1 ?xm s1 s2 s3 s4 s5 s6 (by omega) U4 _ _ _ _ _ _ _ _ _ _ _ _ _ _ _ _ _ ?xB ?xF ?xX ?xN ?xT ?xX2 ?xT2 ?xC1 ?xC2 ?xfr ?xk ?xdd ?xu ?_
                  case xm => exact .tail _ (.tail _ (.tail _ tp))
                  case xF => k_asm
                  case xB => k_asm
                  case xX => k_asm
                  case xX2 => k_asm
                  case xT => k_asm
                  case xT2 => k_asm
                  case xC1 => k_asm
                  case xC2 => k_asm
                  case xfr => exact rfl
                  case xk => exact rfl
                  case xdd => ktr_room
                  case xu => ktr_units
                  case xN => exact rul_in N7
                  rintro v9 nw9 h9 tk9 ⟨tb', r9, u9, ht', rfl, hre, rfl⟩ F9 N9
                  have hr9 : r9 = farF y.1 (pathF qs i) := reach_law (by
                    rw [hpr] at hre
                    exact hre)
                  have N10 := rc_back N9
                  exact hG2 _ (tb', e.2 ++ [_]) _ _ ⟨ht', ints_next hokj.2 hy1 hr9⟩ rfl F9 N10 (rc_off N10 ht' hioj hCj (U4 _ (.head _)) off7)
                case j5 =>
                  intro e he Dj h2 tk2 F7 N7 o7
                  have hvs : IntsAre e.2 (rowN nl qs i) := by
                    rw [List.size_toArray, List.take_of_length_le (by simp [strValues])] at he
                    exact he.2
                  rw [hTT] at N7 o7
                  have f9 := rc_fin (r := ⟨Dj, e.2.length, e.2, rowN nl qs i⟩) N7 o7 he.1 hio hC hK hI4 off offK
                  have hD4 : @Ne Nat Dj 104 := by
                    obtain ⟨o4, ho4⟩ := TabA.mem104 he.1
                    exact Ne.symm (off1_mem o7 (104, o4) (List.mem_append_left _ ho4))
                  exact hG _ ⟨e.1, d.rs ++ [⟨Dj, e.2.length, e.2, rowN nl qs i⟩]⟩ _ _ ⟨he.1, rws_next hok.2.1 hvs rfl, fun r hr => by
                    rcases List.mem_append.mp hr with hr | hr
                    · exact hok.2.2 r hr
                    · rw [List.mem_singleton.mp hr]; exact hD4⟩ (by simp) F7 f9.1 f9.2.1 f9.2.2
              case k5 =>
                intro dr hdr Drr h tk F20 N20 o20
                refine exR (rcR N20) fun R7 hR7 => ?_
                refine hideG ?_
                intro b9 hb9
                rcases rc_pack N20 hR7 hdr.1 z6 with ⟨N21, y6, mrr, mrs, upC⟩
                refine hb9 ?_
                clear hb9 b9
                clear hR7 N20
                have hdr5 : RwsOk nl qs 5 dr.rs := by
                  have q := hdr.2.1
                  rw [List.size_toArray, List.length_map, hxl] at q
                  exact q
                have uw := upC _ (upP _ (upV _ mw))
                have ur := List.mem_cons_of_mem (156, tabObj #[]) (List.mem_append_right dr.tb (upC _ wr))
                have ux : ∀ p ∈ xs1, p.ent ∈ (156, tabObj #[]) :: (dr.tb ++ R7) := fun p hp => .tail _ (List.mem_append_right _ (upC _ (wx p hp)))
                show Go _ _ _
                (try dsimp only)
                k_steps
                show wpAny _ _ _ _ _ _
                refine ListComp_V F20 (by rfl) (by decide) (by rfl) (by decide) (by rfl) ?_
                k_steps
                show SrcV _ _ _ _ _ _ _ _ _ _ _ _ _ _
                refine SrcV.list (its := (xs1.map fun p => Value.ref p.a).toArray) (k := (xs1.map fun p => Value.ref p.a).length) (fun _ _ => nwAll N21) (fun _ (lj : List (Str × Tok)) => strValues lj) (fun i lj => lj.map (·.1) = (List.range i).map fun j => wholeF (pathF qs j)) [] rfl F20 N21 rfl rfl ?k2 ?k3 ?k4 ?k5
                case k2 => exact fun i d _ => ur
                case k3 => rw [List.size_toArray, List.length_map, hxl]; decide
                case k4 =>
                  intro i d v I oI C oC D m₂ h tk E' G hi hok hP hio hC hx F5 N5 off ne hG
                  dsimp only [nwAll] at N5 off hG
                  obtain ⟨p, hp, rfl⟩ : ∃ p, xs1[i]? = some p ∧ v = Value.ref p.a := by
                    simp only [List.getElem?_toArray, List.getElem?_map, Option.map_eq_some_iff] at hP
                    obtain ⟨p, h1, h2⟩ := hP
                    exact ⟨p, h1, h2.symm⟩
                  have hpr : p.ls.map (·.1) = rowF qs i := path_item (g := fun p : PcI => p.ls.map (·.1)) hok2.2.2 hp
                  have mpe := ux p (List.mem_of_getElem? hp)
                  obtain ⟨pa, pc, pls⟩ := p
                  k_steps
                  show wpAny _ _ _ _ _ _
                  dsimp only at hpr
                  refine' SC.join (News.isList N5 (.tail _ (.tail _ (.tail _ mpe)))) hpr row_fits ?_
                  intro t' tk'
                  rw [show rowF qs i = rawF (wholeF (pathF qs i)) from rfl, join_raw]
                  k_steps
                  exact hG _ (d ++ [(wholeF (pathF qs i), t')]) _ _ (by rw [List.map_append, hok, List.range_succ, List.map_append]; rfl) (by simp [strValues]) (by k_asm) (by k_asm) off
                case k5 =>
                  intro lj hj Dj h tk F22 N22 o22
                  (try dsimp only [nwAll] at N22 o22)
                  have hj5 : lj.map (·.1) = lw.map (·.1) := by
                    rw [List.size_toArray, List.length_map, hxl] at hj
                    rw [hj, hokw, List.size_toArray, strValues, List.length_map, hls]
                  k_steps
                  show wpAny _ _ _ _ _ _
                  refine' ne_lst N22 (.head _) (.tail _ (.tail _ (List.mem_append_right _ uw))) ?j1 ?j2 (eq_strs hj5) ?_
                  case j1 => have := congrArg List.length hj5; simpa [strValues] using this
                  case j2 => k_units
                  k_steps
                  show wpAny _ _ _ _ _ _
                  refine' ne_lst N22 (.tail _ (.tail _ (List.mem_append_right _ mrr))) (.tail _ (.tail _ (List.mem_append_right _ (upC _ mpl)))) ?j1 ?j2 (eq_rows N22 hdr5 hrp5 (fun r hr => .tail _ (.tail _ (List.mem_append_right _ (mrs r hr)))) (fun r hr => .tail _ (.tail _ (List.mem_append_right _ (upC _ (mrp r hr))))) ?j3) ?_
                  case j1 => rw [List.length_map, List.length_map, rws_len hdr5, rws_len hrp5]
                  case j2 => k_units
                  case j3 => k_units
                  replace N22 := news_tail N22
                  have uk2 := List.mem_cons_of_mem (156, tabObj #[]) (List.mem_append_right dr.tb (upC _ wk2))
                  have up7 : ∀ p ∈ R4, p ∈ dr.tb ++ R7 := fun p hp => List.mem_append_right _ (upC _ (upP _ (upV _ hp)))
                  have hver := vd_in (prog := PySem.Challenge.rw_nb0127_01.row.prog) (up7 _ mt) (up7 _ me) (up7 _ md) (by with_reducible assumption) (lt5 (by with_reducible assumption)) hfs hvv
                  k_steps
                  show wpAny _ _ _ _ _ _
                  refine' merged_call _ _ [(156, tabObj #[])] (dr.tb ++ R7) _ _ _ vv.length (dr.rs.map fun r => Value.ref r.a).length 0 (.inl rfl) y6 vv dr.rs nl ?ya ?yb ?yc hvv.1 (rws_len hdr5) (rows_in hdr5 fun r hr => List.mem_append_right _ (mrs r hr)) hn3 (vv.map tvOf) hver _ _ _ _ _ _ _ _ _ _ _ _ _ _ _ _ _ _ _ _ _ _ ?xB ?xF ?xX ?xN ?xT ?xC1 ?xC2 ?xk ?xdd ?xu ?_
                  case xF => k_asm
                  case xN => exact N22
                  case xB => k_asm
                  case xX => k_asm
                  case xT => k_asm
                  case xC1 => k_asm
                  case xC2 => k_asm
                  case xk => exact rfl
                  case xdd => ktr_room
                  case xu => ktr_units
                  case ya => exact List.mem_append_right _ (upC _ (upP _ mv))
                  case yb => exact List.mem_append_right _ mrr
                  case yc => exact List.mem_append_right _ (upC _ wn)
                  intro v9 nw9 h9 tk9 hM F23 N23
                  clear N22
                  refine hideG ?_
                  intro b9 hb9
                  rcases hM with ⟨T9, AA, a1, a2, tb9, xs9, cA, rfl, ht9, htb9, hup9, hT9, hA9, hL1, hL2⟩
                  refine hb9 ?_
                  clear hb9 b9
                  (try dsimp only)
                  have nk2 := hup9 _ (List.mem_append_right dr.tb (upC _ wk2))
                  k_steps
                  show wpAny _ _ _ _ _ _
                  with_reducible rename News _ _ _ _ => N30
                  with_reducible rename Fr _ _ _ _ => F30
                  obtain ⟨ts1, hts1, hm1⟩ := ds_one N30 vv rp
                  refine' due_call _ _ _ _ _ _ _ 0 vv.length (rp.map fun r => Value.ref r.a).length 0 (dsOf vv rp [0, 2, 4, 1, 3] ts1) vv (rp.map (·.a)) nl hm1 ?ya ?yb ?yc hvv.1 ?yd (ds_in (by decide) hver hvv.1 hrp5 (fun r hr => List.mem_append_right _ (upC _ (mrp r hr))) (fun p hp => .tail _ (hup9 p hp))) ?ye ?yf ?yg _ _ _ _ _ _ _ _ _ _ _ _ _ _ _ _ _ _ _ _ _ _ ?xB ?xF ?xX ?xN ?xT ?xC1 ?xC2 ?xk ?xdd ?xu ?_
                  case xF => k_asm
                  case xN => exact N30
                  case xB => k_asm
                  case xX => k_asm
                  case xT => k_asm
                  case xC1 => k_asm
                  case xC2 => k_asm
                  case xk => exact rfl
                  case xdd => ktr_room
                  case xu => ktr_units
                  case ya => exact .tail _ (hup9 _ (List.mem_append_right _ (upC _ (upP _ mv))))
                  case yb => exact .tail _ (rows_refs (hup9 _ (List.mem_append_right _ (upC _ mpl))))
                  case yc => exact .tail _ (hup9 _ (List.mem_append_right _ (upC _ wn)))
                  case yd => rw [List.length_map, rws_len hrp5]
                  case ye => rw [hn3]; decide
                  case yf => rw [ds_len (by rw [hts1]; rfl)]; decide
                  case yg => rw [ds_len (by rw [hts1]; rfl)]; decide
                  intro v31 nw31 h31 tk31 hD F31 N31
                  clear N30
                  refine hideG ?_
                  intro b9 hb9
                  rcases due_facts hD with ⟨A1, Ts1, c1, rfl, hA1, hTl1, hT1, hup31⟩
                  refine hb9 ?_
                  clear hb9 b9
                  (try dsimp only)
                  have nk2 := hup31 _ (.tail _ nk2)
                  k_steps
                  show wpAny _ _ _ _ _ _
                  with_reducible rename News _ _ _ _ => N32
                  with_reducible rename Fr _ _ _ _ => F32
                  obtain ⟨ts2, hts2, hm2⟩ := ds_two N32 vv rp
                  refine' due_call _ _ _ _ _ _ _ 0 vv.length (rp.map fun r => Value.ref r.a).length 0 (dsOf vv rp [1, 3, 0, 2, 4] ts2) vv (rp.map (·.a)) nl hm2 ?ya ?yb ?yc hvv.1 ?yd (ds_in (by decide) hver hvv.1 hrp5 (fun r hr => List.mem_append_right _ (upC _ (mrp r hr))) (fun p hp => .tail _ (hup31 _ (.tail _ (hup9 p hp))))) ?ye ?yf ?yg _ _ _ _ _ _ _ _ _ _ _ _ _ _ _ _ _ _ _ _ _ _ ?xB ?xF ?xX ?xN ?xT ?xC1 ?xC2 ?xk ?xdd ?xu ?_
                  case xF => k_asm
                  case xN => exact N32
                  case xB => k_asm
                  case xX => k_asm
                  case xT => k_asm
                  case xC1 => k_asm
                  case xC2 => k_asm
                  case xk => exact rfl
                  case xdd => ktr_room
                  case xu => ktr_units
                  case ya => exact .tail _ (hup31 _ (.tail _ (hup9 _ (List.mem_append_right _ (upC _ (upP _ mv))))))
                  case yb => exact .tail _ (rows_refs (hup31 _ (.tail _ (hup9 _ (List.mem_append_right _ (upC _ mpl))))))
                  case yc => exact .tail _ (hup31 _ (.tail _ (hup9 _ (List.mem_append_right _ (upC _ wn)))))
                  case yd => rw [List.length_map, rws_len hrp5]
                  case ye => rw [hn3]; decide
                  case yf => rw [ds_len (by rw [hts2]; rfl)]; decide
                  case yg => rw [ds_len (by rw [hts2]; rfl)]; decide
                  intro v33 nw33 h33 tk33 hD F33 N33
                  clear N32
                  refine hideG ?_
                  intro b9 hb9
                  rcases due_facts hD with ⟨A2, Ts2, c2', rfl, hA2, hTl2, hT2, hup33⟩
                  refine hb9 ?_
                  clear hb9 b9
                  (try dsimp only)
                  have up39 : ∀ p ∈ nw9, p ∈ nw33 := fun p hp => hup33 _ (.tail _ (hup31 _ (.tail _ hp)))
                  have up13 : ∀ p ∈ nw31, p ∈ nw33 := fun p hp => hup33 _ (.tail _ hp)
                  k_steps
                  show wpAny _ _ _ _ _ _
                  with_reducible rename News _ _ _ _ => N40
                  with_reducible rename Fr _ _ _ _ => F40
                  have hA9' := up39 _ hA9
                  have hq1 := hL1.mono (led' := nw33) up39
                  have hq2 := hL2.mono (led' := nw33) up39
                  have hr1 := fun k q T x y => (hT1 k q T x y).mono up13
                  have hb1 := up13 _ hA1
                  refine eq_lst_op (vs := [.ref a1, .ref a2]) (us := [.ref A1, .ref A2]) N40 (.tail _ hA9') (.head _) rfl (by k_units) (eq_pair (eq_answers (news_tail N40) hdr5 hrp5 hq1 hb1 hTl1 hr1 rfl hts1 (by decide) (by k_units)) (eq_answers (news_tail N40) hdr5 hrp5 hq2 hA2 hTl2 hT2 rfl hts2 (by decide) (by k_units))) ?_
                  (try dsimp only)
                  repeat (refine go_ret (by with_reducible assumption) ?_)
                  refine ⟨?_, ?_⟩
                  · k_steps
                  · exact ⟨tabB_grown N40 ht9 fun p hp => .tail _ (up39 _ (htb9 p hp)), tabA_grown N40 hdr.1 fun p hp => .tail _ (up39 _ (hup9 p (List.mem_append_left _ hp))), trivial⟩
end Fin9
end Lw
open Lw
theorem PySem.Challenge.cw_nb0127_01_holds : PySem.Challenge.rw_nb0127_01.Holds := by
  exact walk_of hd Lw.left fun w s₀ s₁ mg mb => henk_all (P := Fin9.P0) (by with_unfolding_all exact Fin9.main) (w, s₀, s₁, mg, mb)
end
